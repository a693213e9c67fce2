import JvmDerived
import JvmDerived.Pilot.@@N@@Statement
import JvmDerived.Pilot.@@N@@Code
set_option linter.unusedVariables false
set_option linter.unusedSimpArgs false
namespace Jvm.RoadKit
open Sem ClassFile Op Lib Jvm.Stand Jvm.Free Jvm.LawKit
section New
variable {p : Program} {l : Launch} {e : Env} {R : Room} {s : State} {m : MethodId} {args : Array Value} {below : List Frame} {meth : Method} {c : Code} {T : State} {locs : List Loc} {cells slots : Nat}
theorem retI (X : Stand p l e R s m args below meth c T locs cells slots) (hx : p.tables.exec = Jvm.exec) {pc : Nat} {Ls : Array Slot} {z : Int32} {rest : List Value} (hret : meth.sig.returnType = some .int) (hd : decode c.code pc = .ok (.ireturn, 1)) {fs : List Frame}
    (hl : ∀ (f : JFrame) (acts : List Action), f.method = m → f.locked = none → f.entered = [] → (doReturn e (T.setTop f) acts (some (.int z))).1 = T.setFrames fs) : Steps p.tables e below (T.setTop (mkF m pc Ls (.int z :: rest))) (T.setFrames fs) := by
  have hm' : T.vm.method? m = some meth := X.method'
  have hn : narrow .int (.int z) = .int z := rfl
  show Steps p.tables e below (T.setTop { method := m, pc := pc, locals := Ls, stack := _ :: rest, locked := none }) _
  jvm_step X.here [X.here.top, hx, hd, hm', hret, hn]
  first | (intro acts; rw [hl _ acts rfl rfl rfl]) | rw [hl _ _ rfl rfl rfl]
  exact Steps.refl _
end New
end Jvm.RoadKit
@@BLOCK:LamKit.lean.txt@@
namespace Jvm.Pilot.@@N@@
open Jvm Jvm.ClassFile Sem Op Lib Jvm.Free Jvm.Stand Jvm.LawKit Jvm.RoadKit Bundle Jvm.Pilot.@@N@@.Jvm.D
theorem hq {a0 : Array Value} {Z : State} (hw : ∀ d ∈ tables_1, d.before a0 Z = true) (i : Nat) {d : Jvm.Cond} (h : tables_1[i]? = some d) : d.before a0 Z = true := hw _ (List.mem_of_getElem? h)
def own_f (y : Int) : Int := 365 * y + y / 4 - y / 100 + y / 400
def own_leap (y : Int) : Int := if y % 4 = 0 ∧ (¬ y % 100 = 0 ∨ y % 400 = 0) then 1 else 0
def own_C (y : Int) : Int := 365 * y + (y + 3) / 4 - (y + 99) / 100 + (y + 399) / 400
theorem own_fC (y : Int) : own_f y = own_C y + own_leap y - 1 := by
  unfold own_f own_C own_leap
  split <;> omega
theorem own_C1 (y : Int) : own_C (y + 1) = own_C y + 365 + own_leap y := by
  unfold own_C own_leap
  split <;> omega
theorem own_Cm (y y' : Int) (h : y < y') : own_C (y + 1) ≤ own_C y' := by
  unfold own_C
  omega
theorem own_A0 (n : Int) : 146097 * n - 591 ≤ 400 * own_f n := by
  unfold own_f
  have e1 : n / 400 = (n / 100) / 4 := by omega
  have e2 : n / 4 = 25 * (n / 100) + (n % 100) / 4 := by omega
  rw [e1, e2]
  generalize hq : n / 100 = q
  generalize hr : n % 100 = r
  have : n = 100 * q + r := by omega
  subst this
  omega
theorem own_A1 (z : Int) : z < own_f ((400 * z + 591) / 146097 + 1) := by
  have h := own_A0 ((400 * z + 591) / 146097 + 1)
  generalize own_f ((400 * z + 591) / 146097 + 1) = w at h ⊢
  omega
theorem own_A2 (z : Int) (h : 0 ≤ z) : z < own_f ((400 * z + 591) / 146097) → own_f ((400 * z + 591) / 146097 - 1) ≤ z := by
  unfold own_f
  generalize hy : (400 * z + 591) / 146097 = y
  have h1 : 146097 * y ≤ 400 * z + 591 := by omega
  have h2 : 400 * z + 591 < 146097 * (y + 1) := by omega
  intro h3
  omega

def own_L (m : Int) (lp : Int) : Int := if m = 2 then 28 + lp else if m = 4 ∨ m = 6 ∨ m = 9 ∨ m = 11 then 30 else 31
def own_E (y m d : Int) : Int := own_C y + (367 * m - 362) / 12 + (d - 1) - (if 2 < m then 2 - own_leap y else 0) - 719528
def own_val (y m d : Int) : Prop := 1 ≤ m ∧ m ≤ 12 ∧ 1 ≤ d ∧ d ≤ own_L m (own_leap y)
theorem own_lp (y : Int) : own_leap y = 0 ∨ own_leap y = 1 := by unfold own_leap; split <;> simp
theorem own_mon (y m d y' m' d' : Int) (v : own_val y m d) (v' : own_val y' m' d') : own_E y m d < own_E y' m' d' ↔ (y < y' ∨ (y = y' ∧ (m < m' ∨ (m = m' ∧ d < d')))) := by
  have key : ∀ y m d y' m' d' : Int, own_val y m d → own_val y' m' d' → (y < y' ∨ (y = y' ∧ (m < m' ∨ (m = m' ∧ d < d')))) → own_E y m d < own_E y' m' d' := by
    intro y m d y' m' d' v v' h
    obtain ⟨a1, a2, a3, a4⟩ := v
    obtain ⟨b1, b2, b3, b4⟩ := v'
    unfold own_E own_L at *
    rcases h with h | ⟨rfl, h⟩
    · have k := own_Cm y y' h
      rw [own_C1] at k
      generalize own_C y = C at *
      generalize own_C y' = C' at *
      rcases own_lp y with e | e <;> rcases own_lp y' with e' | e' <;> (repeat' split at *) <;> omega
    · rcases h with h | ⟨rfl, h⟩
      · generalize own_C y = C at *
        rcases own_lp y with e | e <;> (repeat' split at *) <;> omega
      · omega
  refine ⟨fun h => ?_, key _ _ _ _ _ _ v v'⟩
  rcases Int.lt_trichotomy y y' with q | q | q
  · exact Or.inl q
  · rcases Int.lt_trichotomy m m' with r | r | r
    · exact Or.inr ⟨q, Or.inl r⟩
    · rcases Int.lt_trichotomy d d' with t | t | t
      · exact Or.inr ⟨q, Or.inr ⟨r, t⟩⟩
      · subst q r t; omega
      · have := key _ _ _ _ _ _ v' v (Or.inr ⟨q.symm, Or.inr ⟨r.symm, t⟩⟩); omega
    · have := key _ _ _ _ _ _ v' v (Or.inr ⟨q.symm, Or.inl r⟩); omega
  · have := key _ _ _ _ _ _ v' v (Or.inl q); omega
theorem own_day (z y D : Int) (h : own_f y ≤ z) (h' : z < own_f (y + 1)) (hD : D = z - own_f y) :
    0 ≤ D ∧ D ≤ 365 ∧
    (D < 306 → own_val y ((5 * D + 2) / 153 + 3) (D - (306 * ((5 * D + 2) / 153) + 5) / 10 + 1) ∧ own_E y ((5 * D + 2) / 153 + 3) (D - (306 * ((5 * D + 2) / 153) + 5) / 10 + 1) = z + 60 - 719528 ∧ (5 * D + 2) / 153 + 3 ≤ 12) ∧
    (306 ≤ D → own_val (y + 1) ((5 * D + 2) / 153 + 3 - 12) (D - (306 * ((5 * D + 2) / 153) + 5) / 10 + 1) ∧ own_E (y + 1) ((5 * D + 2) / 153 + 3 - 12) (D - (306 * ((5 * D + 2) / 153) + 5) / 10 + 1) = z + 60 - 719528 ∧ 12 < (5 * D + 2) / 153 + 3) := by
  have f0 := own_fC y
  have f1 := own_fC (y + 1)
  have c1 := own_C1 y
  have l0 := own_lp y
  have l1 := own_lp (y + 1)
  have b : 0 ≤ D ∧ D ≤ 364 + own_leap (y + 1) := by omega
  refine ⟨b.1, by omega, fun g => ?_, fun g => ?_⟩
  · generalize hm : (5 * D + 2) / 153 = M
    have hM : M = 0 ∨ M = 1 ∨ M = 2 ∨ M = 3 ∨ M = 4 ∨ M = 5 ∨ M = 6 ∨ M = 7 ∨ M = 8 ∨ M = 9 := by omega
    have z0 : z = D + own_C y + own_leap y - 1 := by omega
    unfold own_val own_E own_L
    generalize own_C y = C at *
    generalize own_leap y = lp at *
    rcases hM with rfl | rfl | rfl | rfl | rfl | rfl | rfl | rfl | rfl | rfl <;> simp <;> omega
  · generalize hm : (5 * D + 2) / 153 = M
    have hM : M = 10 ∨ M = 11 := by omega
    have z0 : z = D + own_C (y + 1) - 365 - 1 := by omega
    unfold own_val own_E own_L
    generalize own_C (y + 1) = C at *
    generalize own_leap (y + 1) = lp at *
    rcases hM with rfl | rfl <;> simp <;> omega
theorem own_next (y m d : Int) (v : own_val y m d) : (d + 1 ≤ own_L m (own_leap y) → own_val y m (d + 1) ∧ own_E y m (d + 1) = own_E y m d + 1) ∧
    (own_L m (own_leap y) < d + 1 → (m < 12 → own_val y (m + 1) (d + 1 - own_L m (own_leap y)) ∧ own_E y (m + 1) (d + 1 - own_L m (own_leap y)) = own_E y m d + 1) ∧ (¬ m < 12 → own_val (y + 1) 1 (d + 1 - own_L m (own_leap y)) ∧ own_E (y + 1) 1 (d + 1 - own_L m (own_leap y)) = own_E y m d + 1)) := by
  obtain ⟨a1, a2, a3, a4⟩ := v
  have c1 := own_C1 y
  have l0 := own_lp y
  refine ⟨fun h => ⟨⟨a1, a2, by omega, h⟩, by unfold own_E; omega⟩, fun h => ?_⟩
  have e : d + 1 - own_L m (own_leap y) = 1 := by omega
  rw [e]
  refine ⟨fun g => ⟨⟨by omega, by omega, by omega, by unfold own_L; (repeat' split) <;> omega⟩, ?_⟩, fun g => ⟨⟨by omega, by omega, by omega, by unfold own_L; (repeat' split) <;> omega⟩, ?_⟩⟩
  · unfold own_E own_L at *
    have hM : m = 1 ∨ m = 2 ∨ m = 3 ∨ m = 4 ∨ m = 5 ∨ m = 6 ∨ m = 7 ∨ m = 8 ∨ m = 9 ∨ m = 10 ∨ m = 11 := by omega
    generalize own_C y = C at *
    generalize own_leap y = lp at *
    rcases hM with rfl | rfl | rfl | rfl | rfl | rfl | rfl | rfl | rfl | rfl | rfl <;> simp at * <;> omega
  · have hM : m = 12 := by omega
    subst hM
    unfold own_E own_L at *
    rw [c1]
    generalize own_C y = C at *
    generalize own_leap y = lp at *
    simp at * <;> omega

theorem own_f400 (y c : Int) : own_f (y + 400 * c) = own_f y + 146097 * c := by unfold own_f; omega
theorem l146 : (146097 : Int64).toInt = 146097 := by decide
theorem l400 : (400 : Int64).toInt = 400 := by decide
theorem l591 : (591 : Int64).toInt = 591 := by decide
theorem l365 : (365 : Int64).toInt = 365 := by decide
theorem l100 : (100 : Int64).toInt = 100 := by decide
theorem l4 : (4 : Int64).toInt = 4 := by decide
theorem l1 : (1 : Int64).toInt = 1 := by decide
theorem l0 : (0 : Int64).toInt = 0 := by decide
theorem own_o0 (q : Int64) (h : -8589934592 ≤ q.toInt ∧ q.toInt ≤ 8589934592) : ((q + (719528 : Int64)) - (60 : Int64)).toInt = q.toInt + 719468 := by
  have a := c_ladd q 719528
  have e1 : (719528 : Int64).toInt = 719528 := by decide
  have e2 : (60 : Int64).toInt = 60 := by decide
  have r := rng64 (q + 719528)
  have b := c_lsub (q + 719528) 60
  have r2 := rng64 ((q + 719528) - 60)
  rw [e1] at a
  rw [e2] at b
  omega
def own_Oc (z0 z ad : Int64) (cy : Int) : Prop := ad.toInt = 400 * cy ∧ z.toInt = z0.toInt - 146097 * cy ∧ 0 ≤ z.toInt ∧ z.toInt ≤ 8600000000 ∧ -70000 ≤ cy ∧ cy ≤ 0
theorem own_o1 (z0 : Int64) (h : ¬ (z0 < (0 : Int64))) (hb : z0.toInt ≤ 8590654060) : own_Oc z0 z0 (0 : Int64) 0 := by
  rw [Int64.lt_iff_toInt_lt, l0] at h
  exact ⟨by decide, by omega, by omega, by omega, by omega, by omega⟩
theorem own_o2 (z0 cyc : Int64) (hc : cyc = ((z0 + (1 : Int64)) / (146097 : Int64)) - (1 : Int64)) (h : z0 < (0 : Int64)) (hb : -8589215124 ≤ z0.toInt) : own_Oc z0 (z0 + ((-cyc) * (146097 : Int64))) (cyc * (400 : Int64)) cyc.toInt := by
  rw [Int64.lt_iff_toInt_lt, l0] at h
  have a := c_ladd z0 1
  have ra := rng64 (z0 + 1)
  rw [l1] at a
  have d := c_ldiv (z0 + 1) 146097 146097 l146 (by decide)
  have dd : ((z0 + 1) / 146097).toInt = - ((-(z0.toInt + 1)) / 146097) := by
    rcases Int.lt_or_le (z0 + 1).toInt 0 with q | q
    · rw [d.2 q]; have : (z0 + 1).toInt = z0.toInt + 1 := by omega
      rw [this]
    · rw [d.1 q]; have : (z0 + 1).toInt = 0 := by omega
      have e : z0.toInt = -1 := by omega
      rw [this, e]; rfl
  generalize (z0 + 1) / 146097 = w at dd hc
  have s := c_lsub w 1
  have rs := rng64 (w - 1)
  rw [l1] at s
  have hcy : cyc.toInt = w.toInt - 1 := by rw [hc]; omega
  have n := c_lneg cyc
  have rn := rng64 (-cyc)
  have hn : (-cyc).toInt = - cyc.toInt := by omega
  have m := c_lmul (-cyc) 146097
  have rm := rng64 ((-cyc) * 146097)
  rw [l146, hn] at m
  have hm : ((-cyc) * 146097).toInt = -cyc.toInt * 146097 := by omega
  have p := c_ladd z0 ((-cyc) * 146097)
  have rp := rng64 (z0 + (-cyc) * 146097)
  rw [hm] at p
  have m4 := c_lmul cyc 400
  have r4 := rng64 (cyc * 400)
  rw [l400] at m4
  refine ⟨by omega, by omega, by omega, by omega, by omega, by omega⟩

theorem l3 : (3 : Int64).toInt = 3 := by decide
theorem l99 : (99 : Int64).toInt = 99 := by decide
theorem l399 : (399 : Int64).toInt = 399 := by decide
def own_fx (z y : Int64) : Int64 := (z - (((((365 : Int64) * y) + (y / (4 : Int64))) - (y / (100 : Int64))) + (y / (400 : Int64))))
theorem own_fb (y : Int) (h : 0 ≤ y ∧ y ≤ 30000000) : 0 ≤ own_f y ∧ own_f y ≤ 12000000000 := by unfold own_f; omega
theorem own_Cn (y : Int) : own_C y = 365 * y - ((-y) / 4 - (-y) / 100 + (-y) / 400) := by unfold own_C; omega
theorem own_o3 (z y : Int64) (hz : 0 ≤ z.toInt ∧ z.toInt ≤ 8600000000) (hy : 0 ≤ y.toInt ∧ y.toInt ≤ 30000000) : (own_fx z y).toInt = z.toInt - own_f y.toInt := by
  have a1 := c_lmul 365 y
  have r1 := rng64 ((365 : Int64) * y)
  rw [l365] at a1
  have e1 : ((365 : Int64) * y).toInt = 365 * y.toInt := by omega
  have d4 := (c_ldiv y 4 4 l4 (by decide)).1 hy.1
  have d100 := (c_ldiv y 100 100 l100 (by decide)).1 hy.1
  have d400 := (c_ldiv y 400 400 l400 (by decide)).1 hy.1
  unfold own_fx
  generalize (365 : Int64) * y = w1 at *
  generalize y / (4 : Int64) = w2 at *
  generalize y / (100 : Int64) = w3 at *
  generalize y / (400 : Int64) = w4 at *
  have a2 := c_ladd w1 w2
  have r2 := rng64 (w1 + w2)
  have e2 : (w1 + w2).toInt = 365 * y.toInt + y.toInt / 4 := by omega
  generalize w1 + w2 = w5 at *
  have a3 := c_lsub w5 w3
  have r3 := rng64 (w5 - w3)
  have e3 : (w5 - w3).toInt = 365 * y.toInt + y.toInt / 4 - y.toInt / 100 := by omega
  generalize w5 - w3 = w6 at *
  have a4 := c_ladd w6 w4
  have r4 := rng64 (w6 + w4)
  have e4 : (w6 + w4).toInt = own_f y.toInt := by unfold own_f; omega
  generalize w6 + w4 = w7 at *
  have a5 := c_lsub z w7
  have r5 := rng64 (z - w7)
  have b := own_fb y.toInt hy
  clear a1 r1 e1 a2 r2 e2 a3 r3 e3 a4 r4 d4 d100 d400
  omega
theorem own_o3c (z : Int64) (hz : 0 ≤ z.toInt ∧ z.toInt ≤ 8600000000) : ((((400 : Int64) * z) + (591 : Int64)) / (146097 : Int64)).toInt = (400 * z.toInt + 591) / 146097 := by
  have a1 := c_lmul 400 z
  have r1 := rng64 ((400 : Int64) * z)
  rw [l400] at a1
  have e1 : ((400 : Int64) * z).toInt = 400 * z.toInt := by omega
  generalize (400 : Int64) * z = w1 at *
  have a2 := c_ladd w1 591
  have r2 := rng64 (w1 + 591)
  rw [l591] at a2
  have e2 : (w1 + 591).toInt = 400 * z.toInt + 591 := by omega
  generalize w1 + 591 = w2 at *
  rw [(c_ldiv w2 146097 146097 l146 (by decide)).1 (by omega), e2]
def own_Yd (z y d : Int64) : Prop := own_f y.toInt ≤ z.toInt ∧ z.toInt < own_f (y.toInt + 1) ∧ d.toInt = z.toInt - own_f y.toInt ∧ 0 ≤ y.toInt ∧ y.toInt ≤ 30000000
theorem own_o4 (z y d : Int64) (hz : 0 ≤ z.toInt ∧ z.toInt ≤ 8600000000) (hy : y = ((((400 : Int64) * z) + (591 : Int64)) / (146097 : Int64))) (hd : d = own_fx z y) (h : ¬ (d < (0 : Int64))) : own_Yd z y d := by
  have ey : y.toInt = (400 * z.toInt + 591) / 146097 := by rw [hy]; exact own_o3c z hz
  have by1 : 0 ≤ y.toInt ∧ y.toInt ≤ 30000000 := by omega
  have ed : d.toInt = z.toInt - own_f y.toInt := by rw [hd]; exact own_o3 z y hz by1
  rw [Int64.lt_iff_toInt_lt, l0] at h
  have k := own_A1 z.toInt
  rw [← ey] at k
  exact ⟨by omega, k, ed, by1.1, by1.2⟩
theorem own_o5 (z y d : Int64) (hz : 0 ≤ z.toInt ∧ z.toInt ≤ 8600000000) (hy : y = ((((400 : Int64) * z) + (591 : Int64)) / (146097 : Int64))) (hd : d = own_fx z y) (h : d < (0 : Int64)) : own_Yd z (y - (1 : Int64)) (own_fx z (y - (1 : Int64))) := by
  have ey : y.toInt = (400 * z.toInt + 591) / 146097 := by rw [hy]; exact own_o3c z hz
  have by1 : 0 ≤ y.toInt ∧ y.toInt ≤ 30000000 := by omega
  have ed : d.toInt = z.toInt - own_f y.toInt := by rw [hd]; exact own_o3 z y hz by1
  rw [Int64.lt_iff_toInt_lt, l0] at h
  have hlt : z.toInt < own_f y.toInt := by omega
  have k := own_A2 z.toInt hz.1
  rw [← ey] at k
  have k2 := k hlt
  have n0 : y.toInt ≠ 0 := fun q => by rw [q] at hlt; unfold own_f at hlt; omega
  have a := c_lsub y 1
  have r := rng64 (y - 1)
  rw [l1] at a
  have e1 : (y - 1).toInt = y.toInt - 1 := by omega
  have e2 := own_o3 z (y - 1) hz (by omega)
  refine ⟨by rw [e1]; exact k2, ?_, e2, by omega, by omega⟩
  rw [e1, show y.toInt - 1 + 1 = y.toInt by omega]
  exact hlt
def own_dt (y m d : Int32) (e : Int) : Prop := own_val y.toInt m.toInt d.toInt ∧ own_E y.toInt m.toInt d.toInt = e ∧ -9000000000 ≤ e ∧ e ≤ 9000000000
theorem own_leap400 (y c : Int) : own_leap (y + 400 * c) = own_leap y := by
  unfold own_leap
  rw [show (y + 400 * c) % 4 = y % 4 by omega, show (y + 400 * c) % 100 = y % 100 by omega, show (y + 400 * c) % 400 = y % 400 by omega]
theorem own_E400 (y c m d : Int) : own_E (y + 400 * c) m d = own_E y m d + 146097 * c := by
  unfold own_E
  rw [own_leap400]
  unfold own_C
  generalize (367 * m - 362) / 12 = g
  generalize (if 2 < m then 2 - own_leap y else 0) = k
  omega
theorem own_val400 {y m d : Int} (c : Int) (h : own_val y m d) : own_val (y + 400 * c) m d := by
  unfold own_val at *
  rw [own_leap400]
  exact h
theorem own_E401 (y c m d : Int) : own_E (y + 400 * c + 1) m d = own_E (y + 1) m d + 146097 * c := by rw [show y + 400 * c + 1 = (y + 1) + 400 * c by omega]; exact own_E400 (y + 1) c m d
theorem own_val401 {y m d : Int} (c : Int) (h : own_val (y + 1) m d) : own_val (y + 400 * c + 1) m d := by rw [show y + 400 * c + 1 = (y + 1) + 400 * c by omega]; exact own_val400 c h
theorem own_fm (dd : Int32) (D : Int) (h : dd.toInt = D) (b : 0 ≤ D ∧ D ≤ 365) : (((dd * (5 : Int32)) + (2 : Int32)) / (153 : Int32)).toInt = (5 * D + 2) / 153 := by
  have s2 : (2 : Int32).toInt = 2 := by decide
  have s5 : (5 : Int32).toInt = 5 := by decide
  have s153 : (153 : Int32).toInt = 153 := by decide
  have a := c_imul dd 5
  have r := rng32 (dd * 5)
  rw [s5, h] at a
  have e : (dd * 5).toInt = 5 * D := by omega
  generalize dd * 5 = w at *
  have a2 := c_iadd w 2
  have r2 := rng32 (w + 2)
  rw [s2] at a2
  have e2 : (w + 2).toInt = 5 * D + 2 := by omega
  rw [(c_idiv (w + 2) 153 153 s153 (by decide)).1 (by omega), e2]
theorem own_fd (dd mm : Int32) (D M : Int) (h : dd.toInt = D) (hm : mm.toInt = M) (b : 0 ≤ D ∧ D ≤ 365) (bm : 0 ≤ M ∧ M ≤ 12) : ((dd - (((mm * (306 : Int32)) + (5 : Int32)) / (10 : Int32))) + (1 : Int32)).toInt = D - (306 * M + 5) / 10 + 1 := by
  have s5 : (5 : Int32).toInt = 5 := by decide
  have s1 : (1 : Int32).toInt = 1 := by decide
  have s306 : (306 : Int32).toInt = 306 := by decide
  have s10 : (10 : Int32).toInt = 10 := by decide
  have a := c_imul mm 306
  have r := rng32 (mm * 306)
  rw [s306, hm] at a
  have e : (mm * 306).toInt = 306 * M := by omega
  generalize mm * 306 = w at *
  have a2 := c_iadd w 5
  have r2 := rng32 (w + 5)
  rw [s5] at a2
  have e2 : (w + 5).toInt = 306 * M + 5 := by omega
  clear a r e a2 r2
  generalize w + 5 = w2 at *
  have e3 := (c_idiv w2 10 10 s10 (by decide)).1 (by omega)
  rw [e2] at e3
  clear e2
  generalize w2 / 10 = w3 at *
  have a4 := c_isub dd w3
  have r4 := rng32 (dd - w3)
  have e4 : (dd - w3).toInt = D - (306 * M + 5) / 10 := by omega
  clear a4 r4
  generalize dd - w3 = w4 at *
  have a5 := c_iadd w4 1
  have r5 := rng32 (w4 + 1)
  rw [s1] at a5
  omega
theorem own_s12 (x : Int32) (h : 0 ≤ x.toInt ∧ x.toInt ≤ 100) : (x + (-12 : Int32)).toInt = x.toInt - 12 := by
  have sm : (-12 : Int32).toInt = -12 := by decide
  have a := c_iadd x (-12)
  have r := rng32 (x + (-12))
  rw [sm] at a
  generalize (x + (-12 : Int32)).toInt = w at *
  omega
theorem own_a3 (x : Int32) (h : 0 ≤ x.toInt ∧ x.toInt ≤ 100) : (x + (3 : Int32)).toInt = x.toInt + 3 := by
  have sm : (3 : Int32).toInt = 3 := by decide
  have a := c_iadd x 3
  have r := rng32 (x + 3)
  rw [sm] at a
  omega
theorem own_l2 (x : Int64) (h : -2000000000 ≤ x.toInt ∧ x.toInt ≤ 2000000000) : (x.toInt32).toInt = x.toInt := by
  have a := c_l2i x
  have r := rng32 x.toInt32
  omega
theorem own_la (x : Int64) (h : -2000000000 ≤ x.toInt ∧ x.toInt ≤ 2000000000) : (x + (1 : Int64)).toInt = x.toInt + 1 := by
  have a := c_ladd x 1
  have r := rng64 (x + 1)
  rw [l1] at a
  omega
theorem own_ly (a b : Int64) (ha : 0 ≤ a.toInt ∧ a.toInt ≤ 30000000) (hb : -28000000 ≤ b.toInt ∧ b.toInt ≤ 0) : (a + b).toInt = a.toInt + b.toInt := by
  have q := c_ladd a b
  have r := rng64 (a + b)
  omega
set_option maxHeartbeats 4000000 in
theorem own_ofd (q zo zz ad yf df yy ly : Int64) (dd mm mo dm : Int32) (cq : Int) (h0 : zo.toInt = q.toInt + 719468) (hq : -8589934592 ≤ q.toInt ∧ q.toInt ≤ 8589934592) (OC : own_Oc zo zz ad cq) (Y : own_Yd zz yf df) (hyy : yy = (yf + ad)) (hdd : dd = (df.toInt32))
    (hmm : mm = (((dd * (5 : Int32)) + (2 : Int32)) / (153 : Int32))) (hmo : mo = if (12 : Int32) < (mm + (3 : Int32)) then ((mm + (3 : Int32)) + (-12 : Int32)) else (mm + (3 : Int32)))
    (hdm : dm = ((dd - (((mm * (306 : Int32)) + (5 : Int32)) / (10 : Int32))) + (1 : Int32))) (hly : ly = if dd < (306 : Int32) then yy else (yy + (1 : Int64))) : own_dt (ly.toInt32) mo dm q.toInt := by
  obtain ⟨o1, o2, o3, o4, o5, o6⟩ := OC
  obtain ⟨y1, y2, y3, y4, y5⟩ := Y
  obtain ⟨D0, D1, DA, DB⟩ := own_day zz.toInt yf.toInt df.toInt y1 y2 y3
  clear y1 y2 y3
  have s12 : (12 : Int32).toInt = 12 := by decide
  have s306 : (306 : Int32).toInt = 306 := by decide
  have edd : dd.toInt = df.toInt := by rw [hdd]; exact own_l2 df (by omega)
  have emm : mm.toInt = (5 * df.toInt + 2) / 153 := by rw [hmm]; exact own_fm dd _ edd ⟨D0, D1⟩
  have bM : 0 ≤ (5 * df.toInt + 2) / 153 ∧ (5 * df.toInt + 2) / 153 ≤ 12 := by omega
  have edm : dm.toInt = df.toInt - (306 * ((5 * df.toInt + 2) / 153) + 5) / 10 + 1 := by rw [hdm]; exact own_fd dd mm _ _ edd emm ⟨D0, D1⟩ bM
  have em3 : (mm + (3 : Int32)).toInt = (5 * df.toInt + 2) / 153 + 3 := by rw [own_a3 mm (by omega), emm]
  have eyy : yy.toInt = yf.toInt + 400 * cq := by rw [hyy, own_ly yf ad ⟨y4, y5⟩ (by omega), o1]
  have hE : zz.toInt + 60 - 719528 + 146097 * cq = q.toInt := by omega
  clear hyy hdd hmm hdm
  by_cases hc : df.toInt < 306
  · obtain ⟨v, E, h12⟩ := DA hc
    clear DA DB
    have c1 : dd < (306 : Int32) := Int32.lt_iff_toInt_lt.mpr (by rw [s306, edd]; exact hc)
    have c2 : ¬ ((12 : Int32) < mm + (3 : Int32)) := fun g => by rw [Int32.lt_iff_toInt_lt, s12, em3] at g; exact absurd h12 (Int.not_le.mpr g)
    rw [if_pos c1] at hly
    rw [if_neg c2] at hmo
    have ely : ly.toInt32.toInt = yf.toInt + 400 * cq := by rw [hly, own_l2 yy (by omega), eyy]
    unfold own_dt
    rw [ely, hmo, em3, edm]
    exact ⟨own_val400 cq v, by rw [own_E400, E]; exact hE, by omega, by omega⟩
  · obtain ⟨v, E, h12⟩ := DB (Int.not_lt.mp hc)
    clear DA DB
    have c1 : ¬ (dd < (306 : Int32)) := fun g => by rw [Int32.lt_iff_toInt_lt, s306, edd] at g; exact hc g
    have c2 : (12 : Int32) < mm + (3 : Int32) := Int32.lt_iff_toInt_lt.mpr (by rw [s12, em3]; exact h12)
    rw [if_neg c1] at hly
    rw [if_pos c2] at hmo
    have ely : ly.toInt32.toInt = yf.toInt + 400 * cq + 1 := by
      have e1 := own_la yy (by omega)
      rw [hly, own_l2 _ (by omega), e1, eyy]
    have emo : mo.toInt = (5 * df.toInt + 2) / 153 + 3 - 12 := by rw [hmo, own_s12 _ (by omega), em3]
    unfold own_dt
    rw [ely, emo, edm]
    exact ⟨own_val401 cq v, by rw [own_E401, E]; exact hE, by omega, by omega⟩
theorem own_rq (q : Int64) (h : -8589934592 ≤ q.toInt ∧ q.toInt ≤ 8589934592) : ¬ (q < (-365243219162 : Int64)) ∧ ¬ ((365241780471 : Int64) < q) := by
  have e1 : (-365243219162 : Int64).toInt = -365243219162 := by decide
  have e2 : (365241780471 : Int64).toInt = 365241780471 := by decide
  rw [Int64.lt_iff_toInt_lt, Int64.lt_iff_toInt_lt, e1, e2]; omega
theorem own_dr {y m d : Int32} {e : Int} (h : own_dt y m d e) : 1 ≤ m.toInt ∧ m.toInt ≤ 12 ∧ 1 ≤ d.toInt ∧ d.toInt ≤ 31 := by
  obtain ⟨⟨h1, h2, h3, h4⟩, -⟩ := h
  have k := own_lp y.toInt
  refine ⟨h1, h2, h3, ?_⟩
  unfold own_L at h4
  (repeat' split at h4) <;> omega
theorem own_yb {y m d : Int32} {e : Int} (h : own_dt y m d e) : -30000000 ≤ y.toInt ∧ y.toInt ≤ 30000000 := by
  have r := own_dr h
  obtain ⟨-, h5, h6, h7⟩ := h
  have k := own_lp y.toInt
  unfold own_E at h5
  unfold own_C at h5
  split at h5 <;> omega
theorem own_nars (x : Int32) (h : 1 ≤ x.toInt ∧ x.toInt ≤ 31) : nar .short (x.toInt16.toInt32) = x := by
  show x.toInt16.toInt32.toInt16.toInt32 = x
  have c1 := c_i2s x
  have c2 := c_i2s (x.toInt16.toInt32)
  exact Int32.toInt_inj.mp (by omega)
theorem own_vr {y m d : Int} (h : own_val y m d) : 1 ≤ m ∧ m ≤ 31 ∧ 1 ≤ d ∧ d ≤ 31 := by
  obtain ⟨h1, h2, h3, h4⟩ := h
  have k := own_lp y
  refine ⟨h1, by omega, h3, ?_⟩
  unfold own_L at h4
  (repeat' split at h4) <;> omega
theorem own_nz {x : Int32} (h : x = 0 ∨ x = 1) : nar .boolean x = x := by rcases h with rfl | rfl <;> decide
def own_lt (a b : Int) : Int32 := if a < b then 1 else 0
theorem own_lt01 (a b : Int) : own_lt a b = 0 ∨ own_lt a b = 1 := by unfold own_lt; split <;> simp
theorem own_t1 {y : Int32} (hy : -30000000 ≤ y.toInt ∧ y.toInt ≤ 30000000) {yL to j : Int64} (hyL : yL = (y.toInt64)) (hto : to = ((0 : Int64) + ((365 : Int64) * yL)))
    (hj : j = if yL < (0 : Int64) then (to - (((yL / (-4 : Int64)) - (yL / (-100 : Int64))) + (yL / (-400 : Int64)))) else (to + ((((yL + (3 : Int64)) / (4 : Int64)) - ((yL + (99 : Int64)) / (100 : Int64))) + ((yL + (399 : Int64)) / (400 : Int64))))) : j.toInt = own_C y.toInt := by
  have e0 : yL.toInt = y.toInt := by rw [hyL]; exact c_i2l y
  have a1 := c_lmul 365 yL
  have r1 := rng64 ((365 : Int64) * yL)
  rw [l365] at a1
  have e1 : ((365 : Int64) * yL).toInt = 365 * y.toInt := by omega
  have et : to.toInt = 365 * y.toInt := by
    rw [hto]
    generalize (365 : Int64) * yL = w at *
    have a2 := c_ladd 0 w
    have r2 := rng64 (0 + w)
    rw [l0] at a2; omega
  have m4 : (-4 : Int64).toInt = -4 := by decide
  have m100 : (-100 : Int64).toInt = -100 := by decide
  have m400 : (-400 : Int64).toInt = -400 := by decide
  by_cases hc : yL < (0 : Int64)
  · rw [if_pos hc] at hj
    rw [Int64.lt_iff_toInt_lt, l0] at hc
    have d4 := (c_ldivN yL (-4) 4 (by decide) m4 (by decide)).2 hc
    have d100 := (c_ldivN yL (-100) 100 (by decide) m100 (by decide)).2 hc
    have d400 := (c_ldivN yL (-400) 400 (by decide) m400 (by decide)).2 hc
    rw [e0] at d4 d100 d400
    generalize yL / (-4) = w4 at *
    generalize yL / (-100) = w100 at *
    generalize yL / (-400) = w400 at *
    have a2 := c_lsub w4 w100
    have r2 := rng64 (w4 - w100)
    have e2 : (w4 - w100).toInt = (-y.toInt) / 4 - (-y.toInt) / 100 := by omega
    generalize w4 - w100 = w5 at *
    have a3 := c_ladd w5 w400
    have r3 := rng64 (w5 + w400)
    have e3 : (w5 + w400).toInt = (-y.toInt) / 4 - (-y.toInt) / 100 + (-y.toInt) / 400 := by omega
    generalize w5 + w400 = w6 at *
    have a4 := c_lsub to w6
    have r4 := rng64 (to - w6)
    rw [hj, own_Cn]
    clear a2 r2 e2 a3 r3 d4 d100 d400 a1 r1 e1 hj hto
    omega
  · rw [if_neg hc] at hj
    rw [Int64.lt_iff_toInt_lt, l0] at hc
    have q3 := c_ladd yL 3
    have g3 := rng64 (yL + 3)
    have q99 := c_ladd yL 99
    have g99 := rng64 (yL + 99)
    have q399 := c_ladd yL 399
    have g399 := rng64 (yL + 399)
    rw [l3] at q3
    rw [l99] at q99
    rw [l399] at q399
    have f3 : (yL + 3).toInt = y.toInt + 3 := by omega
    have f99 : (yL + 99).toInt = y.toInt + 99 := by omega
    have f399 : (yL + 399).toInt = y.toInt + 399 := by omega
    have d4 := (c_ldiv (yL + 3) 4 4 l4 (by decide)).1 (by omega)
    have d100 := (c_ldiv (yL + 99) 100 100 l100 (by decide)).1 (by omega)
    have d400 := (c_ldiv (yL + 399) 400 400 l400 (by decide)).1 (by omega)
    rw [f3] at d4
    rw [f99] at d100
    rw [f399] at d400
    generalize (yL + 3) / 4 = w4 at *
    generalize (yL + 99) / 100 = w100 at *
    generalize (yL + 399) / 400 = w400 at *
    have a2 := c_lsub w4 w100
    have r2 := rng64 (w4 - w100)
    have e2 : (w4 - w100).toInt = (y.toInt + 3) / 4 - (y.toInt + 99) / 100 := by omega
    generalize w4 - w100 = w5 at *
    have a3 := c_ladd w5 w400
    have r3 := rng64 (w5 + w400)
    have e3 : (w5 + w400).toInt = (y.toInt + 3) / 4 - (y.toInt + 99) / 100 + (y.toInt + 399) / 400 := by omega
    generalize w5 + w400 = w6 at *
    have a4 := c_ladd to w6
    have r4 := rng64 (to + w6)
    rw [hj]
    unfold own_C
    omega
theorem own_pn {y m d : Int32} {z : Int} (D : own_dt y m d z) {dn : Int64} (h : dn = ((d.toInt64) + (1 : Int64))) : dn.toInt = d.toInt + 1 ∧ (dn.toInt32).toInt = d.toInt + 1 ∧ (0 : Int64) < dn ∧ ¬ ((59 : Int64) < dn) := by
  have r := own_dr D
  have e := c_i2l d
  have a := c_ladd d.toInt64 1
  have g := rng64 (d.toInt64 + 1)
  rw [l1] at a
  have e1 : dn.toInt = d.toInt + 1 := by rw [h]; omega
  have c := c_l2i dn
  have gc := rng32 dn.toInt32
  have l59 : (59 : Int64).toInt = 59 := by decide
  rw [Int64.lt_iff_toInt_lt, Int64.lt_iff_toInt_lt, l0, l59]
  exact ⟨e1, by omega, by omega, by omega⟩
theorem own_L28 (m lp : Int) (h : 0 ≤ lp) : 28 ≤ own_L m lp := by unfold own_L; (repeat' split) <;> omega
theorem own_p1 {y m d : Int32} {z : Int} (D : own_dt y m d z) (hz : z + 1 ≤ 9000000000) {dn : Int64} (h : dn = ((d.toInt64) + (1 : Int64))) (g : ¬ ((28 : Int64) < dn)) : own_dt y m (dn.toInt32) (z + 1) := by
  obtain ⟨e1, e2, -, -⟩ := own_pn D h
  have l28 : (28 : Int64).toInt = 28 := by decide
  rw [Int64.lt_iff_toInt_lt, l28] at g
  obtain ⟨v, E, b1, b2⟩ := D
  have k := (own_next _ _ _ v).1 (by have := own_L28 m.toInt (own_leap y.toInt) (by have := own_lp y.toInt; omega); omega)
  unfold own_dt
  rw [e2]
  exact ⟨k.1, by rw [k.2, E], by omega, by omega⟩
theorem own_p2 {y m d r : Int32} {z : Int} (D : own_dt y m d z) (hz : z + 1 ≤ 9000000000) {dn ln : Int64} (h : dn = ((d.toInt64) + (1 : Int64))) (hr : r.toInt = own_L m.toInt (own_leap y.toInt)) (hl : ln = (r.toInt64)) (g : ¬ (ln < dn)) : own_dt y m (dn.toInt32) (z + 1) := by
  obtain ⟨e1, e2, -, -⟩ := own_pn D h
  have el : ln.toInt = r.toInt := by rw [hl]; exact c_i2l r
  rw [Int64.lt_iff_toInt_lt] at g
  obtain ⟨v, E, b1, b2⟩ := D
  have k := (own_next _ _ _ v).1 (by omega)
  unfold own_dt
  rw [e2]
  exact ⟨k.1, by rw [k.2, E], by omega, by omega⟩
theorem own_dl {y m d r : Int32} {z : Int} (D : own_dt y m d z) {dn ln : Int64} (h : dn = ((d.toInt64) + (1 : Int64))) (hr : r.toInt = own_L m.toInt (own_leap y.toInt)) (hl : ln = (r.toInt64)) (g : ln < dn) : ((dn - ln).toInt32).toInt = d.toInt + 1 - own_L m.toInt (own_leap y.toInt) ∧ own_L m.toInt (own_leap y.toInt) < d.toInt + 1 := by
  obtain ⟨e1, e2, -, -⟩ := own_pn D h
  have q := own_dr D
  have el : ln.toInt = r.toInt := by rw [hl]; exact c_i2l r
  rw [Int64.lt_iff_toInt_lt] at g
  have a := c_lsub dn ln
  have ra := rng64 (dn - ln)
  have b := own_L28 m.toInt (own_leap y.toInt) (by have := own_lp y.toInt; omega)
  have e3 : (dn - ln).toInt = d.toInt + 1 - r.toInt := by omega
  have c := c_l2i (dn - ln)
  have gc := rng32 (dn - ln).toInt32
  exact ⟨by omega, by omega⟩
theorem own_p3 {y m d r : Int32} {z : Int} (D : own_dt y m d z) (hz : z + 1 ≤ 9000000000) {dn ln : Int64} (h : dn = ((d.toInt64) + (1 : Int64))) (hr : r.toInt = own_L m.toInt (own_leap y.toInt)) (hl : ln = (r.toInt64)) (g : ln < dn) (g2 : m < (12 : Int32)) : own_dt y (m + (1 : Int32)) ((dn - ln).toInt32) (z + 1) := by
  obtain ⟨e1, e2⟩ := own_dl D h hr hl g
  have s12 : (12 : Int32).toInt = 12 := by decide
  have s1 : (1 : Int32).toInt = 1 := by decide
  rw [Int32.lt_iff_toInt_lt, s12] at g2
  have q := own_dr D
  obtain ⟨v, E, b1, b2⟩ := D
  have k := ((own_next _ _ _ v).2 e2).1 g2
  have a := c_iadd m 1
  have ra := rng32 (m + 1)
  rw [s1] at a
  have em : (m + 1).toInt = m.toInt + 1 := by omega
  unfold own_dt
  rw [e1, em]
  exact ⟨k.1, by rw [k.2, E], by omega, by omega⟩
theorem own_p4 {y m d r : Int32} {z : Int} (D : own_dt y m d z) (hz : z + 1 ≤ 9000000000) {dn ln : Int64} (h : dn = ((d.toInt64) + (1 : Int64))) (hr : r.toInt = own_L m.toInt (own_leap y.toInt)) (hl : ln = (r.toInt64)) (g : ln < dn) (g2 : ¬ (m < (12 : Int32))) : own_dt (y + (1 : Int32)) (1 : Int32) ((dn - ln).toInt32) (z + 1) := by
  obtain ⟨e1, e2⟩ := own_dl D h hr hl g
  have s12 : (12 : Int32).toInt = 12 := by decide
  have s1 : (1 : Int32).toInt = 1 := by decide
  rw [Int32.lt_iff_toInt_lt, s12] at g2
  have yb := own_yb D
  obtain ⟨v, E, b1, b2⟩ := D
  have k := ((own_next _ _ _ v).2 e2).2 g2
  have a := c_iadd y 1
  have ra := rng32 (y + 1)
  rw [s1] at a
  have em : (y + 1).toInt = y.toInt + 1 := by omega
  unfold own_dt
  rw [e1, em, s1]
  exact ⟨k.1, by rw [k.2, E], by omega, by omega⟩
theorem own_p5 {y m d : Int32} {z : Int} (D : own_dt y m d z) : ¬ (((y + (1 : Int32)).toInt64) < (-999999999 : Int64)) ∧ ¬ ((999999999 : Int64) < ((y + (1 : Int32)).toInt64)) := by
  have yb := own_yb D
  have s1 : (1 : Int32).toInt = 1 := by decide
  have a := c_iadd y 1
  have ra := rng32 (y + 1)
  rw [s1] at a
  have e := c_i2l (y + 1)
  have e1 : (-999999999 : Int64).toInt = -999999999 := by decide
  have e2 : (999999999 : Int64).toInt = 999999999 := by decide
  rw [Int64.lt_iff_toInt_lt, Int64.lt_iff_toInt_lt, e1, e2, e]; omega
theorem own_m12 {m : Int32} (h : 1 ≤ m.toInt ∧ m.toInt ≤ 12) : m = 1 ∨ m = 2 ∨ m = 3 ∨ m = 4 ∨ m = 5 ∨ m = 6 ∨ m = 7 ∨ m = 8 ∨ m = 9 ∨ m = 10 ∨ m = 11 ∨ m = 12 := by
  have e : m.toInt = (1 : Int32).toInt ∨ m.toInt = (2 : Int32).toInt ∨ m.toInt = (3 : Int32).toInt ∨ m.toInt = (4 : Int32).toInt ∨ m.toInt = (5 : Int32).toInt ∨ m.toInt = (6 : Int32).toInt ∨ m.toInt = (7 : Int32).toInt ∨ m.toInt = (8 : Int32).toInt ∨ m.toInt = (9 : Int32).toInt ∨ m.toInt = (10 : Int32).toInt ∨ m.toInt = (11 : Int32).toInt ∨ m.toInt = (12 : Int32).toInt := by
    rw [show (1 : Int32).toInt = 1 by decide, show (2 : Int32).toInt = 2 by decide, show (3 : Int32).toInt = 3 by decide, show (4 : Int32).toInt = 4 by decide, show (5 : Int32).toInt = 5 by decide, show (6 : Int32).toInt = 6 by decide, show (7 : Int32).toInt = 7 by decide, show (8 : Int32).toInt = 8 by decide, show (9 : Int32).toInt = 9 by decide, show (10 : Int32).toInt = 10 by decide, show (11 : Int32).toInt = 11 by decide, show (12 : Int32).toInt = 12 by decide]
    omega
  simpa only [Int32.toInt_inj] using e
theorem own_k3 (x : Int32) : (x &&& (2147483647 : Int32)) % (3 : Int32) = 0 ∨ (x &&& (2147483647 : Int32)) % (3 : Int32) = 1 ∨ (x &&& (2147483647 : Int32)) % (3 : Int32) = 2 := by
  have s : (2147483647 : Int32).toInt = 2147483647 := by decide
  have s3 : (3 : Int32).toInt = 3 := by decide
  have a := c_and x 2147483647 (by decide)
  generalize x &&& 2147483647 = w at *
  have b := (c_irem w 3 3 s3).1 a.1
  generalize w % 3 = r at *
  have e : r.toInt = (0 : Int32).toInt ∨ r.toInt = (1 : Int32).toInt ∨ r.toInt = (2 : Int32).toInt := by
    rw [show (0 : Int32).toInt = 0 by decide, show (1 : Int32).toInt = 1 by decide, show (2 : Int32).toInt = 2 by decide]
    omega
  simpa only [Int32.toInt_inj] using e
theorem own_bl (x : Int32) : -2932896 < ((x % (2932896 : Int32)).toInt64).toInt ∧ ((x % (2932896 : Int32)).toInt64).toInt < 2932896 := by
  have s : (2932896 : Int32).toInt = 2932896 := by decide
  have e := c_i2l (x % (2932896 : Int32))
  have a := c_irem x 2932896 2932896 s
  rcases Int.lt_or_le x.toInt 0 with q | q
  · have := a.2 q; omega
  · have := a.1 q; omega
theorem own_ba (x : Int32) : -2147483648 ≤ (x.toInt64).toInt ∧ (x.toInt64).toInt < 2147483648 := by
  have e := c_i2l x
  have r := rng32 x
  omega
theorem own_bd {a : Int64} (h : -2147483648 ≤ a.toInt ∧ a.toInt < 2147483648) (x : Int32) : -8589934592 ≤ (a + (x.toInt64)).toInt ∧ (a + (x.toInt64)).toInt ≤ 8589934592 := by
  have e := c_i2l x
  have r := rng32 x
  have q := c_ladd a x.toInt64
  have g := rng64 (a + x.toInt64)
  omega

theorem own_selp {args : Array Value} {s : State} {y : MethodName} {n : Nat} (hi : (Cond.instantiable y.cls n).before args s = true) (hin : (Cond.instanceMethod y).before args s = true) (hp : (Cond.privateMethod y).before args s = true) (hy : y.cls ≠ "java/lang/invoke/MethodHandle" ∧ y.cls ≠ "java/lang/invoke/VarHandle") : (Cond.selects y.cls y y).before args s = true := by
  obtain ⟨c, k, h1, h2, -, h3, -⟩ := Cond.instantiable_spec hi
  exact selects_self_of_private h1 h2 (by cases hk : k.isInterface <;> simp_all) (Cond.privateMethod_at hp) hin hy
def Stw (Z : State) (eN eA eC ps crr ads sw oe efd rfd eyr ryr bt bf ic : Addr) (ksw : ClassId) : Prop := Sta Z Z.heap "com/example/ratabl/ratabl/model/LockDateMethod" "NONE" "Lcom/example/ratabl/ratabl/model/LockDateMethod;" (.ref eN) ∧ Sta Z Z.heap "com/example/ratabl/ratabl/model/LockDateMethod" "ACCOUNTING_DATE" "Lcom/example/ratabl/ratabl/model/LockDateMethod;" (.ref eA) ∧ Sta Z Z.heap "com/example/ratabl/ratabl/model/LockDateMethod" "CUSTOM" "Lcom/example/ratabl/ratabl/model/LockDateMethod;" (.ref eC) ∧ Sta Z Z.heap "com/example/ratabl/ratabl/model/ProrationStrategy" "PRORATE_DAILY" "Lcom/example/ratabl/ratabl/model/ProrationStrategy;" (.ref ps) ∧ Sta Z Z.heap "com/example/ratabl/ratabl/model/CreditNoteRevenueImpact" "CANCELLATION" "Lcom/example/ratabl/ratabl/model/CreditNoteRevenueImpact;" (.ref crr) ∧ Sta Z Z.heap "com/example/ratabl/ratabl/model/AccountingDateSource" "ACCOUNTING_DATE" "Lcom/example/ratabl/ratabl/model/AccountingDateSource;" (.ref ads) ∧ Sta Z Z.heap "com/example/ratabl/ratabl/engine/Lock$1" "$SwitchMap$com$example$ratabl$ratabl$model$LockDateMethod" "[I" (.ref sw) ∧ Sta Z Z.heap "java/util/Optional" "EMPTY" "Ljava/util/Optional;" (.ref oe) ∧ Sta Z Z.heap "java/time/temporal/ChronoField" "EPOCH_DAY" "Ljava/time/temporal/ChronoField;" (.ref efd) ∧ Sta Z Z.heap "java/time/temporal/ChronoField" "YEAR" "Ljava/time/temporal/ChronoField;" (.ref eyr) ∧ Sta Z Z.heap "java/lang/Boolean" "TRUE" "Ljava/lang/Boolean;" (.ref bt) ∧ Sta Z Z.heap "java/lang/Boolean" "FALSE" "Ljava/lang/Boolean;" (.ref bf) ∧ Sta Z Z.heap "java/time/chrono/IsoChronology" "INSTANCE" "Ljava/time/chrono/IsoChronology;" (.ref ic) ∧ Exa Z Z.heap eN "com/example/ratabl/ratabl/model/LockDateMethod" ∧ Exa Z Z.heap eA "com/example/ratabl/ratabl/model/LockDateMethod" ∧ Exa Z Z.heap eC "com/example/ratabl/ratabl/model/LockDateMethod" ∧ Fld Z Z.heap eN "java/lang/Enum" "ordinal" "I" (.int (0 : Int32)) ∧ Fld Z Z.heap eA "java/lang/Enum" "ordinal" "I" (.int (1 : Int32)) ∧ Fld Z Z.heap eC "java/lang/Enum" "ordinal" "I" (.int (2 : Int32)) ∧ Arv Z Z.heap sw ksw .int (3 : Int32) [(.int (3 : Int32)), (.int (2 : Int32)), (.int (1 : Int32))] (.int (0 : Int32)) ∧ Exa Z Z.heap oe "java/util/Optional" ∧ Fld Z Z.heap oe "java/util/Optional" "value" "Ljava/lang/Object;" .null ∧ Exa Z Z.heap efd "java/time/temporal/ChronoField" ∧ Fld Z Z.heap efd "java/time/temporal/ChronoField" "range" "Ljava/time/temporal/ValueRange;" (.ref rfd) ∧ Exa Z Z.heap rfd "java/time/temporal/ValueRange" ∧ Fld Z Z.heap rfd "java/time/temporal/ValueRange" "minSmallest" "J" (.long (-365243219162 : Int64)) ∧ Fld Z Z.heap rfd "java/time/temporal/ValueRange" "maxLargest" "J" (.long (365241780471 : Int64)) ∧ Exa Z Z.heap eyr "java/time/temporal/ChronoField" ∧ Fld Z Z.heap eyr "java/time/temporal/ChronoField" "range" "Ljava/time/temporal/ValueRange;" (.ref ryr) ∧ Exa Z Z.heap ryr "java/time/temporal/ValueRange" ∧ Fld Z Z.heap ryr "java/time/temporal/ValueRange" "minSmallest" "J" (.long (-999999999 : Int64)) ∧ Fld Z Z.heap ryr "java/time/temporal/ValueRange" "maxLargest" "J" (.long (999999999 : Int64)) ∧ Exa Z Z.heap bt "java/lang/Boolean" ∧ Fld Z Z.heap bt "java/lang/Boolean" "value" "Z" (.int (1 : Int32)) ∧ Exa Z Z.heap bf "java/lang/Boolean" ∧ Fld Z Z.heap bf "java/lang/Boolean" "value" "Z" (.int (0 : Int32)) ∧ Exa Z Z.heap ic "java/time/chrono/IsoChronology"
theorem d19_0 : decode jdk_2423_method_6_code 0 = .ok (.aload_n 0, 1) := by decide +kernel
theorem d19_1 : decode jdk_2423_method_6_code 1 = .ok (.getfield 33, 3) := by decide +kernel
theorem d19_4 : decode jdk_2423_method_6_code 4 = .ok (.lreturn, 1) := by decide +kernel
def Q19 (Z : State) (r0 : Addr) (lo : Int64) (h0 : Heap) (n0 : Nat) (v : Option Value) (h : Heap) (L : List Loc) : Prop := v = some (.long lo) ∧ Fr n0 L ∧ h = h0
theorem ef_rm19 (m : MethodId) (x0 : Addr) : entryFrame m #[(.ref x0)] 1 = mkF m 0 #[.val (.ref x0)] [] := by first | (simp [entryFrame, mkF, argsToLocals, Value.category]; done) | rfl
theorem pnc_java_time_temporal_ValueRange : plainName "java/time/temporal/ValueRange" = true := by first | (simp [plainName, overriddenIn]; done) | decide +kernel
set_option maxRecDepth 65536 in
set_option maxHeartbeats 40000000 in
theorem rm19 (l : Launch) (Z : State) (a0 : Array Value) (hw : ∀ d ∈ tables_1, d.before a0 Z = true) (ws : List Jvm.Cond) (r0 : Addr) (lo : Int64) (h0 : Heap) (n0 : Nat) (Z0 : n0 ≤ h0.size) (Fx : Fld Z h0 r0 "java/time/temporal/ValueRange" "minSmallest" "J" (.long lo)) :
  MetFree l (⟨"java/time/temporal/ValueRange", "getMinimum", "()J"⟩ : MethodName) (head1 (Jvm.Cond.code (⟨"java/time/temporal/ValueRange", "getMinimum", "()J"⟩ : MethodName) jdk_2423_method_6_code 1 (some .long) :: ws) ({ frames := 0, cells := 0, slots := 0, locals := 0 } : Room)) (fun a U => a = #[(.ref r0)] ∧ Z.Warmed39 U.vm ∧ U.heap = h0) (fun _ _ _ _ _ => True) (fun _ U o U' => ∃ v L, o = .returned v ∧ Q19 Z r0 lo h0 n0 v U'.heap L ∧ FrameEnd U o U' L ({ frames := 0, cells := 0, slots := 0, locals := 0 } : Room).cells ({ frames := 0, cells := 0, slots := 0, locals := 0 } : Room).slots) := by
 refine MetFree.of_bodySF (plainFor_of_name pnc_java_time_temporal_ValueRange) hisR ?_
 intro p e s m args below meth c s₁ Bd hml0 hP hK
 obtain ⟨rfl, hZ, hh⟩ := hP
 have hx := Bd.exec
 have hby := Bd.bytes
 have hml : c.maxLocals = 1 := hml0
 have hown : s.vm.findClass "java/time/temporal/ValueRange" = some m.cls := findClass_of_methodNamed Bd.named
 have hnm := (name_of_methodNamed Bd.named Bd.method).1
 have X0 : Stand p l e ({ frames := 0, cells := 0, slots := 0, locals := 0 } : Room) s m #[(.ref r0)] below meth c s₁ [] 0 0 := Stand.of_body Bd
 have e0 : s₁.heap = h0 := by rw [← hh, Bd.state]; rfl
 have N0 := Fr.nil n0
 have kp0 : Keep h0 h0 [] := Keep.refl _ _
 have G0 : ∀ t, Steps p.tables e below (s₁.setTop (mkF m 0 #[rv r0] [])) t → Steps p.tables e below (s₁.setTop (entryFrame m #[(.ref r0)] 1)) t := fun t k => castTop (ef_rm19 m r0) k
 obtain ⟨T1, X1, e1, st1⟩ := getF X0 hx hZ hown (host := "") (Or.inl (hq hw 136 rfl)) Via.refl e0 Fx (g := (mkF m 1 #[rv r0] [(.ref r0)])) rfl rfl (hb hby d19_1)
 obtain ⟨fs, hr, hrun, hended, hW, hsame⟩ := X1.leave (v := some (.long lo)) (fun h => by rw [Bd.returns] at h; cases h)
 refine ⟨_, _, G0 _ ?_, hrun, hended, _, _, rfl, ?_, ⟨_, rfl⟩, hW, hsame.mono (by decide) (by decide)⟩
 ·skip
  refine XS.aloadN X0.here hx rfl (hb hby d19_0) rfl rfl ?_
  refine st1 _ ?_
  exact retOut X1 hx Bd.returns rfl (Or.inr (Or.inl ⟨rfl, rfl, _, rfl⟩)) (hb hby d19_4) hr
 ·show Q19 Z r0 lo h0 n0 _ T1.heap _
  rw [e1]
  exact ⟨rfl, N0, rfl⟩
theorem d20_0 : decode jdk_2423_method_9_code 0 = .ok (.aload_n 0, 1) := by decide +kernel
theorem d20_1 : decode jdk_2423_method_9_code 1 = .ok (.getfield 43, 3) := by decide +kernel
theorem d20_4 : decode jdk_2423_method_9_code 4 = .ok (.lreturn, 1) := by decide +kernel
def Q20 (Z : State) (r0 : Addr) (hi : Int64) (h0 : Heap) (n0 : Nat) (v : Option Value) (h : Heap) (L : List Loc) : Prop := v = some (.long hi) ∧ Fr n0 L ∧ h = h0
theorem ef_rm20 (m : MethodId) (x0 : Addr) : entryFrame m #[(.ref x0)] 1 = mkF m 0 #[.val (.ref x0)] [] := by first | (simp [entryFrame, mkF, argsToLocals, Value.category]; done) | rfl
set_option maxRecDepth 65536 in
set_option maxHeartbeats 40000000 in
theorem rm20 (l : Launch) (Z : State) (a0 : Array Value) (hw : ∀ d ∈ tables_1, d.before a0 Z = true) (ws : List Jvm.Cond) (r0 : Addr) (hi : Int64) (h0 : Heap) (n0 : Nat) (Z0 : n0 ≤ h0.size) (Fx : Fld Z h0 r0 "java/time/temporal/ValueRange" "maxLargest" "J" (.long hi)) :
  MetFree l (⟨"java/time/temporal/ValueRange", "getMaximum", "()J"⟩ : MethodName) (head1 (Jvm.Cond.code (⟨"java/time/temporal/ValueRange", "getMaximum", "()J"⟩ : MethodName) jdk_2423_method_9_code 1 (some .long) :: ws) ({ frames := 0, cells := 0, slots := 0, locals := 0 } : Room)) (fun a U => a = #[(.ref r0)] ∧ Z.Warmed39 U.vm ∧ U.heap = h0) (fun _ _ _ _ _ => True) (fun _ U o U' => ∃ v L, o = .returned v ∧ Q20 Z r0 hi h0 n0 v U'.heap L ∧ FrameEnd U o U' L ({ frames := 0, cells := 0, slots := 0, locals := 0 } : Room).cells ({ frames := 0, cells := 0, slots := 0, locals := 0 } : Room).slots) := by
 refine MetFree.of_bodySF (plainFor_of_name pnc_java_time_temporal_ValueRange) hisR ?_
 intro p e s m args below meth c s₁ Bd hml0 hP hK
 obtain ⟨rfl, hZ, hh⟩ := hP
 have hx := Bd.exec
 have hby := Bd.bytes
 have hml : c.maxLocals = 1 := hml0
 have hown : s.vm.findClass "java/time/temporal/ValueRange" = some m.cls := findClass_of_methodNamed Bd.named
 have hnm := (name_of_methodNamed Bd.named Bd.method).1
 have X0 : Stand p l e ({ frames := 0, cells := 0, slots := 0, locals := 0 } : Room) s m #[(.ref r0)] below meth c s₁ [] 0 0 := Stand.of_body Bd
 have e0 : s₁.heap = h0 := by rw [← hh, Bd.state]; rfl
 have N0 := Fr.nil n0
 have kp0 : Keep h0 h0 [] := Keep.refl _ _
 have G0 : ∀ t, Steps p.tables e below (s₁.setTop (mkF m 0 #[rv r0] [])) t → Steps p.tables e below (s₁.setTop (entryFrame m #[(.ref r0)] 1)) t := fun t k => castTop (ef_rm20 m r0) k
 obtain ⟨T1, X1, e1, st1⟩ := getF X0 hx hZ hown (host := "") (Or.inl (hq hw 143 rfl)) Via.refl e0 Fx (g := (mkF m 1 #[rv r0] [(.ref r0)])) rfl rfl (hb hby d20_1)
 obtain ⟨fs, hr, hrun, hended, hW, hsame⟩ := X1.leave (v := some (.long hi)) (fun h => by rw [Bd.returns] at h; cases h)
 refine ⟨_, _, G0 _ ?_, hrun, hended, _, _, rfl, ?_, ⟨_, rfl⟩, hW, hsame.mono (by decide) (by decide)⟩
 ·skip
  refine XS.aloadN X0.here hx rfl (hb hby d20_0) rfl rfl ?_
  refine st1 _ ?_
  exact retOut X1 hx Bd.returns rfl (Or.inr (Or.inl ⟨rfl, rfl, _, rfl⟩)) (hb hby d20_4) hr
 ·show Q20 Z r0 hi h0 n0 _ T1.heap _
  rw [e1]
  exact ⟨rfl, N0, rfl⟩
theorem d18_0 : decode jdk_2423_method_11_code 0 = .ok (.lload_n 1, 1) := by decide +kernel
theorem d18_1 : decode jdk_2423_method_11_code 1 = .ok (.aload_n 0, 1) := by decide +kernel
theorem d18_2 : decode jdk_2423_method_11_code 2 = .ok (.invokevirtual 46, 3) := by decide +kernel
theorem pd_0 : parseMethodDescriptor "()J" = some ⟨[], some .long⟩ := by decide +kernel
theorem d18_5 : decode jdk_2423_method_11_code 5 = .ok (.lcmp, 1) := by decide +kernel
theorem d18_6 : decode jdk_2423_method_11_code 6 = .ok (.ifCond .lt 16, 3) := by decide +kernel
theorem d18_9 : decode jdk_2423_method_11_code 9 = .ok (.lload_n 1, 1) := by decide +kernel
theorem d18_10 : decode jdk_2423_method_11_code 10 = .ok (.aload_n 0, 1) := by decide +kernel
theorem d18_11 : decode jdk_2423_method_11_code 11 = .ok (.invokevirtual 54, 3) := by decide +kernel
theorem d18_14 : decode jdk_2423_method_11_code 14 = .ok (.lcmp, 1) := by decide +kernel
theorem d18_15 : decode jdk_2423_method_11_code 15 = .ok (.ifCond .gt 7, 3) := by decide +kernel
theorem d18_18 : decode jdk_2423_method_11_code 18 = .ok (.iconst 1, 1) := by decide +kernel
theorem d18_19 : decode jdk_2423_method_11_code 19 = .ok (.goto 4, 3) := by decide +kernel
theorem d18_23 : decode jdk_2423_method_11_code 23 = .ok (.ireturn, 1) := by decide +kernel
def Q18 (Z : State) (r0 : Addr) (q1 : Int64) (lo hi : Int64) (h0 : Heap) (n0 : Nat) (v : Option Value) (h : Heap) (L : List Loc) : Prop := v = some (.int (1 : Int32)) ∧ Fr n0 L ∧ h = h0
theorem ef_rm18 (m : MethodId) (x0 : Addr) (x1 : Int64) : entryFrame m #[(.ref x0), (.long x1)] 3 = mkF m 0 #[.val (.ref x0), .val (.long x1), .second] [] := by first | (simp [entryFrame, mkF, argsToLocals, Value.category]; done) | rfl
set_option maxRecDepth 65536 in
set_option maxHeartbeats 40000000 in
theorem rm18 (l : Launch) (Z : State) (a0 : Array Value) (hw : ∀ d ∈ tables_1, d.before a0 Z = true) (ws : List Jvm.Cond) (r0 : Addr) (q1 : Int64) (lo hi : Int64) (h0 : Heap) (n0 : Nat) (Z0 : n0 ≤ h0.size) (Ev : Exa Z h0 r0 "java/time/temporal/ValueRange") (Fl : Fld Z h0 r0 "java/time/temporal/ValueRange" "minSmallest" "J" (.long lo)) (Fh : Fld Z h0 r0 "java/time/temporal/ValueRange" "maxLargest" "J" (.long hi)) (hlo : ¬ (q1 < lo)) (hhi : ¬ (hi < q1)) :
  MetFree l (⟨"java/time/temporal/ValueRange", "isValidValue", "(J)Z"⟩ : MethodName) (head1 (Jvm.Cond.code (⟨"java/time/temporal/ValueRange", "isValidValue", "(J)Z"⟩ : MethodName) jdk_2423_method_11_code 3 (some .boolean) :: ws) ({ frames := 1, cells := 0, slots := 0, locals := 14 } : Room)) (fun a U => a = #[(.ref r0), (.long q1)] ∧ Z.Warmed39 U.vm ∧ U.heap = h0) (fun _ _ _ _ _ => True) (fun _ U o U' => ∃ v L, o = .returned v ∧ Q18 Z r0 q1 lo hi h0 n0 v U'.heap L ∧ FrameEnd U o U' L ({ frames := 1, cells := 0, slots := 0, locals := 14 } : Room).cells ({ frames := 1, cells := 0, slots := 0, locals := 14 } : Room).slots) := by
 refine MetFree.of_bodySF (plainFor_of_name pnc_java_time_temporal_ValueRange) hisR ?_
 intro p e s m args below meth c s₁ Bd hml0 hP hK
 obtain ⟨rfl, hZ, hh⟩ := hP
 have hx := Bd.exec
 have hby := Bd.bytes
 have hml : c.maxLocals = 3 := hml0
 have hown : s.vm.findClass "java/time/temporal/ValueRange" = some m.cls := findClass_of_methodNamed Bd.named
 have hnm := (name_of_methodNamed Bd.named Bd.method).1
 have X0 : Stand p l e ({ frames := 1, cells := 0, slots := 0, locals := 14 } : Room) s m #[(.ref r0), (.long q1)] below meth c s₁ [] 0 0 := Stand.of_body Bd
 have e0 : s₁.heap = h0 := by rw [← hh, Bd.state]; rfl
 have N0 := Fr.nil n0
 have kp0 : Keep h0 h0 [] := Keep.refl _ _
 have G0 : ∀ t, Steps p.tables e below (s₁.setTop (mkF m 0 #[rv r0, .val (.long q1), .second] [])) t → Steps p.tables e below (s₁.setTop (entryFrame m #[(.ref r0), (.long q1)] 3)) t := fun t k => castTop (ef_rm18 m r0 q1) k
 obtain ⟨cq1, kq1, q1a, q1b, q1c⟩ := isOf hZ e0 Ev
 obtain ⟨_, _, ⟨T1, L1, k1, n1⟩, -, X1, ⟨Lc1, hQ1, l1, y1, z1⟩, st1⟩ := X0.virtualBack hx (y := (⟨"java/time/temporal/ValueRange", "getMinimum", "()J"⟩ : MethodName)) (z := (⟨"java/time/temporal/ValueRange", "getMinimum", "()J"⟩ : MethodName)) hown (mvT hZ (hq hw 131 rfl)) (mvT hZ (hq hw 132 rfl)) (notFace_of_selects (args := #[]) (mvT hZ (hq hw 134 rfl))) (mvT hZ (hq hw 134 rfl)) (mvT hZ (hq hw 133 rfl)) (by decide) (backOf (W := 2) (rm19 l Z a0 hw [] r0 lo h0 n0 Z0 Fl ) hZ (hq hw 135 rfl) (hq hw 124 rfl) (by decide) (by decide)) q1a q1c (g := (mkF m 2 #[rv r0, .val (.long q1), .second] [(.ref r0), (.long q1)])) rfl (by rw [hml]; rfl) (Steps.refl _) (argsL := []) (rest := [(.long q1)]) (lenOf pd_0 rfl) rfl (by show 2 * 0 + _ ≤ _; exact Nat.le_of_eq rfl) (hb hby d18_2) (fun _ _ => ⟨rfl, e0, (by decide : 0 + 0 ≤ _), (by decide : 0 + 0 ≤ _)⟩)
 dsimp only [Pt.U, Pt.locs, Pt.cells, Pt.slots] at X1 l1 y1 z1 st1 hQ1
 subst l1 y1 z1
 obtain ⟨rfl, N1q, eh1⟩ := hQ1
 have N1 := Fr.app N0 N1q
 have G2 : ∀ t, Steps p.tables e below (T1.setTop (mkF m 6 #[rv r0, .val (.long q1), .second] [(.int (lcmpW q1 lo))])) t → Steps p.tables e below (s₁.setTop (entryFrame m #[(.ref r0), (.long q1)] 3)) t := by
  intro t kt
  refine G0 _ ?_
  refine XS.lloadN X0.here hx rfl (hb hby d18_0) rfl ?_
  refine XS.aloadN X0.here hx rfl (hb hby d18_1) rfl rfl ?_
  refine st1.trans ?_
  refine XS.lcmp X1.here hx rfl (hb hby d18_5) rfl ?_
  exact kt
 have hc6_3 : ¬ (q1 < lo) := hlo
 obtain ⟨cq4, kq4, q4a, q4b, q4c⟩ := isOf hZ eh1 Ev
 obtain ⟨_, _, ⟨T4, L4, k4, n4⟩, -, X4, ⟨Lc4, hQ4, l4, y4, z4⟩, st4⟩ := X1.virtualBack hx (y := (⟨"java/time/temporal/ValueRange", "getMaximum", "()J"⟩ : MethodName)) (z := (⟨"java/time/temporal/ValueRange", "getMaximum", "()J"⟩ : MethodName)) hown (mvT hZ (hq hw 138 rfl)) (mvT hZ (hq hw 139 rfl)) (notFace_of_selects (args := #[]) (mvT hZ (hq hw 141 rfl))) (mvT hZ (hq hw 141 rfl)) (mvT hZ (hq hw 140 rfl)) (by decide) (backOf (W := 2) (rm20 l Z a0 hw [] r0 hi h0 n0 Z0 Fh ) hZ (hq hw 142 rfl) (hq hw 124 rfl) (by decide) (by decide)) q4a q4c (g := (mkF m 11 #[rv r0, .val (.long q1), .second] [(.ref r0), (.long q1)])) rfl (by rw [hml]; rfl) (Steps.refl _) (argsL := []) (rest := [(.long q1)]) (lenOf pd_0 rfl) rfl (by show 2 * 0 + _ ≤ _; exact Nat.le_of_eq rfl) (hb hby d18_11) (fun _ _ => ⟨rfl, eh1, (by decide : 0 + 0 ≤ _), (by decide : 0 + 0 ≤ _)⟩)
 dsimp only [Pt.U, Pt.locs, Pt.cells, Pt.slots] at X4 l4 y4 z4 st4 hQ4
 subst l4 y4 z4
 obtain ⟨rfl, N4q, eh4⟩ := hQ4
 have N4 := Fr.app N1 N4q
 have G5 : ∀ t, Steps p.tables e below (T4.setTop (mkF m 15 #[rv r0, .val (.long q1), .second] [(.int (lcmpW q1 hi))])) t → Steps p.tables e below (s₁.setTop (entryFrame m #[(.ref r0), (.long q1)] 3)) t := by
  intro t kt
  refine G2 _ ?_
  refine XS.ifNo X1.here hx rfl (hb hby d18_6) rfl ((if0 _ _).trans (flt (fun q => hc6_3 ((lw_lt _ _).mp q))).1) ?_
  refine XS.lloadN X1.here hx rfl (hb hby d18_9) rfl ?_
  refine XS.aloadN X1.here hx rfl (hb hby d18_10) rfl rfl ?_
  refine st4.trans ?_
  refine XS.lcmp X4.here hx rfl (hb hby d18_14) rfl ?_
  exact kt
 have hc15_6 : ¬ (hi < q1) := hhi
 obtain ⟨fs, hr, hrun, hended, hW, hsame⟩ := X4.leave (v := some (.int (1 : Int32))) (fun h => by rw [Bd.returns] at h; cases h)
 refine ⟨_, _, G5 _ ?_, hrun, hended, _, _, rfl, ?_, ⟨_, rfl⟩, hW, hsame.mono (by decide) (by decide)⟩
 ·skip
  refine XS.ifNo X4.here hx rfl (hb hby d18_15) rfl ((if0 _ _).trans (flt (fun q => hc15_6 ((lw_gt _ _).mp q))).2.2.1) ?_
  refine XS.iconst X4.here hx rfl (hb hby d18_18) ?_
  refine XS.goto X4.here hx rfl (pc0 := 19) (pc' := 23) rfl (hb hby d18_19) (by decide) (by decide) ?_
  exact retN X4 hx (t := .boolean) Bd.returns (by simp) (hb hby d18_23) hr
 ·show Q18 Z r0 q1 lo hi h0 n0 _ T4.heap _
  rw [eh4]
  exact ⟨rfl, N4, rfl⟩
theorem d17_0 : decode jdk_2423_method_13_code 0 = .ok (.aload_n 0, 1) := by decide +kernel
theorem d17_1 : decode jdk_2423_method_13_code 1 = .ok (.lload_n 1, 1) := by decide +kernel
theorem d17_2 : decode jdk_2423_method_13_code 2 = .ok (.invokevirtual 63, 3) := by decide +kernel
theorem pd_1 : parseMethodDescriptor "(J)Z" = some ⟨[.long], some .boolean⟩ := by decide +kernel
theorem d17_5 : decode jdk_2423_method_13_code 5 = .ok (.ifCond .ne 17, 3) := by decide +kernel
theorem d17_22 : decode jdk_2423_method_13_code 22 = .ok (.lload_n 1, 1) := by decide +kernel
theorem d17_23 : decode jdk_2423_method_13_code 23 = .ok (.lreturn, 1) := by decide +kernel
def Q17 (Z : State) (r0 : Addr) (q1 : Int64) (r2 : Addr) (lo hi : Int64) (h0 : Heap) (n0 : Nat) (v : Option Value) (h : Heap) (L : List Loc) : Prop := v = some (.long q1) ∧ Fr n0 L ∧ h = h0
theorem ef_rm17 (m : MethodId) (x0 : Addr) (x1 : Int64) (x2 : Addr) : entryFrame m #[(.ref x0), (.long x1), (.ref x2)] 4 = mkF m 0 #[.val (.ref x0), .val (.long x1), .second, .val (.ref x2)] [] := by first | (simp [entryFrame, mkF, argsToLocals, Value.category]; done) | rfl
set_option maxRecDepth 65536 in
set_option maxHeartbeats 40000000 in
theorem rm17 (l : Launch) (Z : State) (a0 : Array Value) (hw : ∀ d ∈ tables_1, d.before a0 Z = true) (ws : List Jvm.Cond) (r0 : Addr) (q1 : Int64) (r2 : Addr) (lo hi : Int64) (h0 : Heap) (n0 : Nat) (Z0 : n0 ≤ h0.size) (Ev : Exa Z h0 r0 "java/time/temporal/ValueRange") (Fl : Fld Z h0 r0 "java/time/temporal/ValueRange" "minSmallest" "J" (.long lo)) (Fh : Fld Z h0 r0 "java/time/temporal/ValueRange" "maxLargest" "J" (.long hi)) (hlo : ¬ (q1 < lo)) (hhi : ¬ (hi < q1)) :
  MetFree l (⟨"java/time/temporal/ValueRange", "checkValidValue", "(JLjava/time/temporal/TemporalField;)J"⟩ : MethodName) (head1 (Jvm.Cond.code (⟨"java/time/temporal/ValueRange", "checkValidValue", "(JLjava/time/temporal/TemporalField;)J"⟩ : MethodName) jdk_2423_method_13_code 4 (some .long) :: ws) ({ frames := 2, cells := 0, slots := 0, locals := 28 } : Room)) (fun a U => a = #[(.ref r0), (.long q1), (.ref r2)] ∧ Z.Warmed39 U.vm ∧ U.heap = h0) (fun _ _ _ _ _ => True) (fun _ U o U' => ∃ v L, o = .returned v ∧ Q17 Z r0 q1 r2 lo hi h0 n0 v U'.heap L ∧ FrameEnd U o U' L ({ frames := 2, cells := 0, slots := 0, locals := 28 } : Room).cells ({ frames := 2, cells := 0, slots := 0, locals := 28 } : Room).slots) := by
 refine MetFree.of_bodySF (plainFor_of_name pnc_java_time_temporal_ValueRange) hisR ?_
 intro p e s m args below meth c s₁ Bd hml0 hP hK
 obtain ⟨rfl, hZ, hh⟩ := hP
 have hx := Bd.exec
 have hby := Bd.bytes
 have hml : c.maxLocals = 4 := hml0
 have hown : s.vm.findClass "java/time/temporal/ValueRange" = some m.cls := findClass_of_methodNamed Bd.named
 have hnm := (name_of_methodNamed Bd.named Bd.method).1
 have X0 : Stand p l e ({ frames := 2, cells := 0, slots := 0, locals := 28 } : Room) s m #[(.ref r0), (.long q1), (.ref r2)] below meth c s₁ [] 0 0 := Stand.of_body Bd
 have e0 : s₁.heap = h0 := by rw [← hh, Bd.state]; rfl
 have N0 := Fr.nil n0
 have kp0 : Keep h0 h0 [] := Keep.refl _ _
 have G0 : ∀ t, Steps p.tables e below (s₁.setTop (mkF m 0 #[rv r0, .val (.long q1), .second, rv r2] [])) t → Steps p.tables e below (s₁.setTop (entryFrame m #[(.ref r0), (.long q1), (.ref r2)] 4)) t := fun t k => castTop (ef_rm17 m r0 q1 r2) k
 obtain ⟨cq1, kq1, q1a, q1b, q1c⟩ := isOf hZ e0 Ev
 obtain ⟨_, _, ⟨T1, L1, k1, n1⟩, -, X1, ⟨Lc1, hQ1, l1, y1, z1⟩, st1⟩ := X0.virtualBack hx (y := (⟨"java/time/temporal/ValueRange", "isValidValue", "(J)Z"⟩ : MethodName)) (z := (⟨"java/time/temporal/ValueRange", "isValidValue", "(J)Z"⟩ : MethodName)) hown (mvT hZ (hq hw 126 rfl)) (mvT hZ (hq hw 127 rfl)) (notFace_of_selects (args := #[]) (mvT hZ (hq hw 129 rfl))) (mvT hZ (hq hw 129 rfl)) (mvT hZ (hq hw 128 rfl)) (by decide) (backOf (W := 0) (rm18 l Z a0 hw [] r0 q1 lo hi h0 n0 Z0 Ev Fl Fh hlo hhi ) hZ (hq hw 130 rfl) (hq hw 124 rfl) (by decide) (by decide)) q1a q1c (g := (mkF m 2 #[rv r0, .val (.long q1), .second, rv r2] [(.long q1), (.ref r0)])) rfl (by rw [hml]; rfl) (Steps.refl _) (argsL := [(.long q1)]) (rest := []) (lenOf pd_1 rfl) rfl (by show 2 * 0 + _ ≤ _; exact Nat.le_of_eq rfl) (hb hby d17_2) (fun _ _ => ⟨rfl, e0, (by decide : 0 + 0 ≤ _), (by decide : 0 + 0 ≤ _)⟩)
 dsimp only [Pt.U, Pt.locs, Pt.cells, Pt.slots] at X1 l1 y1 z1 st1 hQ1
 subst l1 y1 z1
 obtain ⟨rfl, N1q, eh1⟩ := hQ1
 have N1 := Fr.app N0 N1q
 have G2 : ∀ t, Steps p.tables e below (T1.setTop (mkF m 5 #[rv r0, .val (.long q1), .second, rv r2] [(.int (1 : Int32))])) t → Steps p.tables e below (s₁.setTop (entryFrame m #[(.ref r0), (.long q1), (.ref r2)] 4)) t := by
  intro t kt
  refine G0 _ ?_
  refine XS.aloadN X0.here hx rfl (hb hby d17_0) rfl rfl ?_
  refine XS.lloadN X0.here hx rfl (hb hby d17_1) rfl ?_
  refine st1.trans ?_
  exact kt
 obtain ⟨fs, hr, hrun, hended, hW, hsame⟩ := X1.leave (v := some (.long q1)) (fun h => by rw [Bd.returns] at h; cases h)
 refine ⟨_, _, G2 _ ?_, hrun, hended, _, _, rfl, ?_, ⟨_, rfl⟩, hW, hsame.mono (by decide) (by decide)⟩
 ·skip
  refine XS.ifYes X1.here hx rfl (pc0 := 5) (pc' := 22) rfl (hb hby d17_5) rfl ((if0 _ _).trans (feq (by decide)).2) (by decide) (by decide) ?_
  refine XS.lloadN X1.here hx rfl (hb hby d17_22) rfl ?_
  exact retOut X1 hx Bd.returns rfl (Or.inr (Or.inl ⟨rfl, rfl, _, rfl⟩)) (hb hby d17_23) hr
 ·show Q17 Z r0 q1 r2 lo hi h0 n0 _ T1.heap _
  rw [eh1]
  exact ⟨rfl, N1, rfl⟩
theorem d16_0 : decode jdk_2395_method_8_code 0 = .ok (.aload_n 0, 1) := by decide +kernel
theorem d16_1 : decode jdk_2395_method_8_code 1 = .ok (.getfield 124, 3) := by decide +kernel
theorem d16_4 : decode jdk_2395_method_8_code 4 = .ok (.areturn, 1) := by decide +kernel
def Q16 (Z : State) (r0 : Addr) (rr : Addr) (h0 : Heap) (n0 : Nat) (v : Option Value) (h : Heap) (L : List Loc) : Prop := v = some (.ref rr) ∧ Fr n0 L ∧ h = h0
theorem ef_rm16 (m : MethodId) (x0 : Addr) : entryFrame m #[(.ref x0)] 1 = mkF m 0 #[.val (.ref x0)] [] := by first | (simp [entryFrame, mkF, argsToLocals, Value.category]; done) | rfl
theorem pnc_java_time_temporal_ChronoField : plainName "java/time/temporal/ChronoField" = true := by first | (simp [plainName, overriddenIn]; done) | decide +kernel
set_option maxRecDepth 65536 in
set_option maxHeartbeats 40000000 in
theorem rm16 (l : Launch) (Z : State) (a0 : Array Value) (hw : ∀ d ∈ tables_1, d.before a0 Z = true) (ws : List Jvm.Cond) (r0 : Addr) (rr : Addr) (h0 : Heap) (n0 : Nat) (Z0 : n0 ≤ h0.size) (Fr_ : Fld Z h0 r0 "java/time/temporal/ChronoField" "range" "Ljava/time/temporal/ValueRange;" (.ref rr)) :
  MetFree l (⟨"java/time/temporal/ChronoField", "range", "()Ljava/time/temporal/ValueRange;"⟩ : MethodName) (head1 (Jvm.Cond.code (⟨"java/time/temporal/ChronoField", "range", "()Ljava/time/temporal/ValueRange;"⟩ : MethodName) jdk_2395_method_8_code 1 (some (.object "java/time/temporal/ValueRange")) :: ws) ({ frames := 0, cells := 0, slots := 0, locals := 0 } : Room)) (fun a U => a = #[(.ref r0)] ∧ Z.Warmed39 U.vm ∧ U.heap = h0) (fun _ _ _ _ _ => True) (fun _ U o U' => ∃ v L, o = .returned v ∧ Q16 Z r0 rr h0 n0 v U'.heap L ∧ FrameEnd U o U' L ({ frames := 0, cells := 0, slots := 0, locals := 0 } : Room).cells ({ frames := 0, cells := 0, slots := 0, locals := 0 } : Room).slots) := by
 refine MetFree.of_bodySF (plainFor_of_name pnc_java_time_temporal_ChronoField) hisR ?_
 intro p e s m args below meth c s₁ Bd hml0 hP hK
 obtain ⟨rfl, hZ, hh⟩ := hP
 have hx := Bd.exec
 have hby := Bd.bytes
 have hml : c.maxLocals = 1 := hml0
 have hown : s.vm.findClass "java/time/temporal/ChronoField" = some m.cls := findClass_of_methodNamed Bd.named
 have hnm := (name_of_methodNamed Bd.named Bd.method).1
 have X0 : Stand p l e ({ frames := 0, cells := 0, slots := 0, locals := 0 } : Room) s m #[(.ref r0)] below meth c s₁ [] 0 0 := Stand.of_body Bd
 have e0 : s₁.heap = h0 := by rw [← hh, Bd.state]; rfl
 have N0 := Fr.nil n0
 have kp0 : Keep h0 h0 [] := Keep.refl _ _
 have G0 : ∀ t, Steps p.tables e below (s₁.setTop (mkF m 0 #[rv r0] [])) t → Steps p.tables e below (s₁.setTop (entryFrame m #[(.ref r0)] 1)) t := fun t k => castTop (ef_rm16 m r0) k
 obtain ⟨T1, X1, e1, st1⟩ := getF X0 hx hZ hown (host := "") (Or.inl (hq hw 118 rfl)) Via.refl e0 Fr_ (g := (mkF m 1 #[rv r0] [(.ref r0)])) rfl rfl (hb hby d16_1)
 obtain ⟨fs, hr, hrun, hended, hW, hsame⟩ := X1.leave (v := some (.ref rr)) (fun h => by rw [Bd.returns] at h; cases h)
 refine ⟨_, _, G0 _ ?_, hrun, hended, _, _, rfl, ?_, ⟨_, rfl⟩, hW, hsame.mono (by decide) (by decide)⟩
 ·skip
  refine XS.aloadN X0.here hx rfl (hb hby d16_0) rfl rfl ?_
  refine st1 _ ?_
  exact retOut X1 hx Bd.returns rfl (Or.inr (Or.inr (Or.inr (Or.inr ⟨rfl, rfl, rfl⟩)))) (hb hby d16_4) hr
 ·show Q16 Z r0 rr h0 n0 _ T1.heap _
  rw [e1]
  exact ⟨rfl, N0, rfl⟩
theorem d15_0 : decode jdk_2395_method_11_code 0 = .ok (.aload_n 0, 1) := by decide +kernel
theorem d15_1 : decode jdk_2395_method_11_code 1 = .ok (.invokevirtual 190, 3) := by decide +kernel
theorem pd_2 : parseMethodDescriptor "()Ljava/time/temporal/ValueRange;" = some ⟨[], some (.object "java/time/temporal/ValueRange")⟩ := by decide +kernel
theorem d15_4 : decode jdk_2395_method_11_code 4 = .ok (.lload_n 1, 1) := by decide +kernel
theorem d15_5 : decode jdk_2395_method_11_code 5 = .ok (.aload_n 0, 1) := by decide +kernel
theorem d15_6 : decode jdk_2395_method_11_code 6 = .ok (.invokevirtual 193, 3) := by decide +kernel
theorem pd_3 : parseMethodDescriptor "(JLjava/time/temporal/TemporalField;)J" = some ⟨[.long, (.object "java/time/temporal/TemporalField")], some .long⟩ := by decide +kernel
theorem d15_9 : decode jdk_2395_method_11_code 9 = .ok (.lreturn, 1) := by decide +kernel
def Q15 (Z : State) (r0 : Addr) (q1 : Int64) (rr : Addr) (lo hi : Int64) (h0 : Heap) (n0 : Nat) (v : Option Value) (h : Heap) (L : List Loc) : Prop := v = some (.long q1) ∧ Fr n0 L ∧ h = h0
theorem ef_rm15 (m : MethodId) (x0 : Addr) (x1 : Int64) : entryFrame m #[(.ref x0), (.long x1)] 3 = mkF m 0 #[.val (.ref x0), .val (.long x1), .second] [] := by first | (simp [entryFrame, mkF, argsToLocals, Value.category]; done) | rfl
set_option maxRecDepth 65536 in
set_option maxHeartbeats 40000000 in
theorem rm15 (l : Launch) (Z : State) (a0 : Array Value) (hw : ∀ d ∈ tables_1, d.before a0 Z = true) (ws : List Jvm.Cond) (r0 : Addr) (q1 : Int64) (rr : Addr) (lo hi : Int64) (h0 : Heap) (n0 : Nat) (Z0 : n0 ≤ h0.size) (Ec : Exa Z h0 r0 "java/time/temporal/ChronoField") (Fr_ : Fld Z h0 r0 "java/time/temporal/ChronoField" "range" "Ljava/time/temporal/ValueRange;" (.ref rr)) (Ev : Exa Z h0 rr "java/time/temporal/ValueRange") (Fl : Fld Z h0 rr "java/time/temporal/ValueRange" "minSmallest" "J" (.long lo)) (Fh : Fld Z h0 rr "java/time/temporal/ValueRange" "maxLargest" "J" (.long hi)) (hlo : ¬ (q1 < lo)) (hhi : ¬ (hi < q1)) :
  MetFree l (⟨"java/time/temporal/ChronoField", "checkValidValue", "(J)J"⟩ : MethodName) (head1 (Jvm.Cond.code (⟨"java/time/temporal/ChronoField", "checkValidValue", "(J)J"⟩ : MethodName) jdk_2395_method_11_code 3 (some .long) :: ws) ({ frames := 3, cells := 0, slots := 0, locals := 43 } : Room)) (fun a U => a = #[(.ref r0), (.long q1)] ∧ Z.Warmed39 U.vm ∧ U.heap = h0) (fun _ _ _ _ _ => True) (fun _ U o U' => ∃ v L, o = .returned v ∧ Q15 Z r0 q1 rr lo hi h0 n0 v U'.heap L ∧ FrameEnd U o U' L ({ frames := 3, cells := 0, slots := 0, locals := 43 } : Room).cells ({ frames := 3, cells := 0, slots := 0, locals := 43 } : Room).slots) := by
 refine MetFree.of_bodySF (plainFor_of_name pnc_java_time_temporal_ChronoField) hisR ?_
 intro p e s m args below meth c s₁ Bd hml0 hP hK
 obtain ⟨rfl, hZ, hh⟩ := hP
 have hx := Bd.exec
 have hby := Bd.bytes
 have hml : c.maxLocals = 3 := hml0
 have hown : s.vm.findClass "java/time/temporal/ChronoField" = some m.cls := findClass_of_methodNamed Bd.named
 have hnm := (name_of_methodNamed Bd.named Bd.method).1
 have X0 : Stand p l e ({ frames := 3, cells := 0, slots := 0, locals := 43 } : Room) s m #[(.ref r0), (.long q1)] below meth c s₁ [] 0 0 := Stand.of_body Bd
 have e0 : s₁.heap = h0 := by rw [← hh, Bd.state]; rfl
 have N0 := Fr.nil n0
 have kp0 : Keep h0 h0 [] := Keep.refl _ _
 have G0 : ∀ t, Steps p.tables e below (s₁.setTop (mkF m 0 #[rv r0, .val (.long q1), .second] [])) t → Steps p.tables e below (s₁.setTop (entryFrame m #[(.ref r0), (.long q1)] 3)) t := fun t k => castTop (ef_rm15 m r0 q1) k
 obtain ⟨cq1, kq1, q1a, q1b, q1c⟩ := isOf hZ e0 Ec
 obtain ⟨_, _, ⟨T1, L1, k1, n1⟩, -, X1, ⟨Lc1, hQ1, l1, y1, z1⟩, st1⟩ := X0.virtualBack hx (y := (⟨"java/time/temporal/ChronoField", "range", "()Ljava/time/temporal/ValueRange;"⟩ : MethodName)) (z := (⟨"java/time/temporal/ChronoField", "range", "()Ljava/time/temporal/ValueRange;"⟩ : MethodName)) hown (mvT hZ (hq hw 113 rfl)) (mvT hZ (hq hw 114 rfl)) (notFace_of_selects (args := #[]) (mvT hZ (hq hw 116 rfl))) (mvT hZ (hq hw 116 rfl)) (mvT hZ (hq hw 115 rfl)) (by decide) (backOf (W := 0) (rm16 l Z a0 hw [] r0 rr h0 n0 Z0 Fr_ ) hZ (hq hw 117 rfl) (hq hw 107 rfl) (by decide) (by decide)) q1a q1c (g := (mkF m 1 #[rv r0, .val (.long q1), .second] [(.ref r0)])) rfl (by rw [hml]; rfl) (Steps.refl _) (argsL := []) (rest := []) (lenOf pd_2 rfl) rfl (by show 2 * 0 + _ ≤ _; exact Nat.le_of_eq rfl) (hb hby d15_1) (fun _ _ => ⟨rfl, e0, (by decide : 0 + 0 ≤ _), (by decide : 0 + 0 ≤ _)⟩)
 dsimp only [Pt.U, Pt.locs, Pt.cells, Pt.slots] at X1 l1 y1 z1 st1 hQ1
 subst l1 y1 z1
 obtain ⟨rfl, N1q, eh1⟩ := hQ1
 have N1 := Fr.app N0 N1q
 obtain ⟨cq2, kq2, q2a, q2b, q2c⟩ := isOf hZ eh1 Ev
 obtain ⟨_, _, ⟨T2, L2, k2, n2⟩, -, X2, ⟨Lc2, hQ2, l2, y2, z2⟩, st2⟩ := X1.virtualBack hx (y := (⟨"java/time/temporal/ValueRange", "checkValidValue", "(JLjava/time/temporal/TemporalField;)J"⟩ : MethodName)) (z := (⟨"java/time/temporal/ValueRange", "checkValidValue", "(JLjava/time/temporal/TemporalField;)J"⟩ : MethodName)) hown (mvT hZ (hq hw 120 rfl)) (mvT hZ (hq hw 121 rfl)) (notFace_of_selects (args := #[]) (mvT hZ (hq hw 123 rfl))) (mvT hZ (hq hw 123 rfl)) (mvT hZ (hq hw 122 rfl)) (by decide) (backOf (W := 0) (rm17 l Z a0 hw [] rr q1 r0 lo hi h0 n0 Z0 Ev Fl Fh hlo hhi ) hZ (hq hw 125 rfl) (hq hw 124 rfl) (by decide) (by decide)) q2a q2c (g := (mkF m 6 #[rv r0, .val (.long q1), .second] [(.ref r0), (.long q1), (.ref rr)])) rfl (by rw [hml]; rfl) (Steps.refl _) (argsL := [(.long q1), (.ref r0)]) (rest := []) (lenOf pd_3 rfl) rfl (by show 2 * 0 + _ ≤ _; exact Nat.le_of_eq rfl) (hb hby d15_6) (fun _ _ => ⟨rfl, eh1, (by decide : 0 + 0 ≤ _), (by decide : 0 + 0 ≤ _)⟩)
 dsimp only [Pt.U, Pt.locs, Pt.cells, Pt.slots] at X2 l2 y2 z2 st2 hQ2
 subst l2 y2 z2
 obtain ⟨rfl, N2q, eh2⟩ := hQ2
 have N2 := Fr.app N1 N2q
 obtain ⟨fs, hr, hrun, hended, hW, hsame⟩ := X2.leave (v := some (.long q1)) (fun h => by rw [Bd.returns] at h; cases h)
 refine ⟨_, _, G0 _ ?_, hrun, hended, _, _, rfl, ?_, ⟨_, rfl⟩, hW, hsame.mono (by decide) (by decide)⟩
 ·skip
  refine XS.aloadN X0.here hx rfl (hb hby d15_0) rfl rfl ?_
  refine st1.trans ?_
  refine XS.lloadN X1.here hx rfl (hb hby d15_4) rfl ?_
  refine XS.aloadN X1.here hx rfl (hb hby d15_5) rfl rfl ?_
  refine st2.trans ?_
  exact retOut X2 hx Bd.returns rfl (Or.inr (Or.inl ⟨rfl, rfl, _, rfl⟩)) (hb hby d15_9) hr
 ·show Q15 Z r0 q1 rr lo hi h0 n0 _ T2.heap _
  rw [eh2]
  exact ⟨rfl, N2, rfl⟩
theorem d21_0 : decode jdk_2323_method_14_code 0 = .ok (.aload_n 0, 1) := by decide +kernel
theorem d21_1 : decode jdk_2323_method_14_code 1 = .ok (.invokespecial 243, 3) := by decide +kernel
theorem d21_4 : decode jdk_2323_method_14_code 4 = .ok (.aload_n 0, 1) := by decide +kernel
theorem d21_5 : decode jdk_2323_method_14_code 5 = .ok (.iload_n 1, 1) := by decide +kernel
theorem d21_6 : decode jdk_2323_method_14_code 6 = .ok (.putfield 246, 3) := by decide +kernel
theorem d21_9 : decode jdk_2323_method_14_code 9 = .ok (.aload_n 0, 1) := by decide +kernel
theorem d21_10 : decode jdk_2323_method_14_code 10 = .ok (.iload_n 2, 1) := by decide +kernel
theorem d21_11 : decode jdk_2323_method_14_code 11 = .ok (.i2s, 1) := by decide +kernel
theorem d21_12 : decode jdk_2323_method_14_code 12 = .ok (.putfield 250, 3) := by decide +kernel
theorem d21_15 : decode jdk_2323_method_14_code 15 = .ok (.aload_n 0, 1) := by decide +kernel
theorem d21_16 : decode jdk_2323_method_14_code 16 = .ok (.iload_n 3, 1) := by decide +kernel
theorem d21_17 : decode jdk_2323_method_14_code 17 = .ok (.i2s, 1) := by decide +kernel
theorem d21_18 : decode jdk_2323_method_14_code 18 = .ok (.putfield 253, 3) := by decide +kernel
theorem d21_21 : decode jdk_2323_method_14_code 21 = .ok (.return_, 1) := by decide +kernel
def Q21 (Z : State) (r0 : Addr) (p1 : Int32) (p2 : Int32) (p3 : Int32) (h0 : Heap) (n0 : Nat) (v : Option Value) (h : Heap) (L : List Loc) : Prop := v = none ∧ Fr n0 L ∧ Keep h0 h [r0] ∧ Exa Z h r0 "java/time/LocalDate" ∧ Fld Z h r0 "java/time/LocalDate" "year" "I" (.int p1) ∧ Fld Z h r0 "java/time/LocalDate" "month" "S" (.int p2) ∧ Fld Z h r0 "java/time/LocalDate" "day" "S" (.int p3)
theorem ef_rm21 (m : MethodId) (x0 : Addr) (x1 : Int32) (x2 : Int32) (x3 : Int32) : entryFrame m #[(.ref x0), (.int x1), (.int x2), (.int x3)] 4 = mkF m 0 #[.val (.ref x0), .val (.int x1), .val (.int x2), .val (.int x3)] [] := by first | (simp [entryFrame, mkF, argsToLocals, Value.category]; done) | rfl
theorem pnc_java_time_LocalDate : plainName "java/time/LocalDate" = true := by first | (simp [plainName, overriddenIn]; done) | decide +kernel
set_option maxRecDepth 65536 in
set_option maxHeartbeats 40000000 in
theorem rm21 (l : Launch) (Z : State) (a0 : Array Value) (hw : ∀ d ∈ tables_1, d.before a0 Z = true) (ws : List Jvm.Cond) (r0 : Addr) (p1 : Int32) (p2 : Int32) (p3 : Int32) (h0 : Heap) (n0 : Nat) (Z0 : n0 ≤ h0.size) (E0 : Exa Z h0 r0 "java/time/LocalDate") (Fzyear : Fld Z h0 r0 "java/time/LocalDate" "year" "I" (.int (0 : Int32))) (Fzmonth : Fld Z h0 r0 "java/time/LocalDate" "month" "S" (.int (0 : Int32))) (Fzday : Fld Z h0 r0 "java/time/LocalDate" "day" "S" (.int (0 : Int32))) (g_r0 : n0 ≤ r0) (hv : own_val p1.toInt p2.toInt p3.toInt) :
  MetFree l (⟨"java/time/LocalDate", "<init>", "(III)V"⟩ : MethodName) (head1 (Jvm.Cond.code (⟨"java/time/LocalDate", "<init>", "(III)V"⟩ : MethodName) jdk_2323_method_14_code 4 none :: ws) ({ frames := 1, cells := 0, slots := 0, locals := 12 } : Room)) (fun a U => a = #[(.ref r0), (.int p1), (.int p2), (.int p3)] ∧ Z.Warmed39 U.vm ∧ U.heap = h0) (fun _ _ _ _ _ => True) (fun _ U o U' => ∃ v L, o = .returned v ∧ Q21 Z r0 p1 p2 p3 h0 n0 v U'.heap L ∧ FrameEnd U o U' L ({ frames := 1, cells := 0, slots := 0, locals := 12 } : Room).cells ({ frames := 1, cells := 0, slots := 0, locals := 12 } : Room).slots) := by
 refine MetFree.of_bodySF (plainFor_of_name pnc_java_time_LocalDate) hisR ?_
 intro p e s m args below meth c s₁ Bd hml0 hP hK
 obtain ⟨rfl, hZ, hh⟩ := hP
 have hx := Bd.exec
 have hby := Bd.bytes
 have hml : c.maxLocals = 4 := hml0
 have hown : s.vm.findClass "java/time/LocalDate" = some m.cls := findClass_of_methodNamed Bd.named
 have hnm := (name_of_methodNamed Bd.named Bd.method).1
 have X0 : Stand p l e ({ frames := 1, cells := 0, slots := 0, locals := 12 } : Room) s m #[(.ref r0), (.int p1), (.int p2), (.int p3)] below meth c s₁ [] 0 0 := Stand.of_body Bd
 have e0 : s₁.heap = h0 := by rw [← hh, Bd.state]; rfl
 have N0 := Fr.nil n0
 have kp0 : Keep h0 h0 [r0] := Keep.refl _ _
 have G0 : ∀ t, Steps p.tables e below (s₁.setTop (mkF m 0 #[rv r0, iv p1, iv p2, iv p3] [])) t → Steps p.tables e below (s₁.setTop (entryFrame m #[(.ref r0), (.int p1), (.int p2), (.int p3)] 4)) t := fun t k => castTop (ef_rm21 m r0 p1 p2 p3) k
 have hv' := own_vr hv
 have hmS := own_nars p2 ⟨hv'.1, hv'.2.1⟩
 have hdS := own_nars p3 ⟨hv'.2.2.1, hv'.2.2.2⟩
 obtain ⟨T1, X1, e1, st1⟩ := initO X0 hx hZ hown (hq hw 159 rfl) (hq hw 36 rfl) (hq hw 37 rfl) e0 (g := (mkF m 1 #[rv r0, iv p1, iv p2, iv p3] [(.ref r0)])) rfl (by rw [hml]; rfl) rfl (hb hby d21_1) (by decide) (W := 0) (by show 2 * 0 + _ ≤ _; exact Nat.le_of_eq rfl) (by decide)
 obtain ⟨T2, h2, X2, e2, W2, st2⟩ := putF X1 hx hZ hown (host := "") (Or.inl (hq hw 160 rfl)) Via.refl e1 Fzyear E0 (Or.inr ⟨(hq hw 161 rfl), rfl, hnm⟩) (hq hw 154 rfl) (ty := .int) (by decide) rfl rfl (g := (mkF m 6 #[rv r0, iv p1, iv p2, iv p3] [(.int p1), (.ref r0)])) rfl rfl (hb hby d21_6)
 have fa3 := E0.wr W2
 have fa4 : Fld Z h2 r0 "java/time/LocalDate" "year" "I" (.int p1) := Fzyear.same W2
 have fa5 := Fzmonth.other W2 (Or.inr (slot_ne (Or.inr (hq hw 163 rfl)) (Or.inr (hq hw 161 rfl)) (by decide) (t := .short) (t' := .int) (by decide) (by decide)))
 have fa6 := Fzday.other W2 (Or.inr (slot_ne (Or.inr (hq hw 165 rfl)) (Or.inr (hq hw 161 rfl)) (by decide) (t := .short) (t' := .int) (by decide) (by decide)))
 have z7 : n0 ≤ h2.size := Nat.le_trans Z0 (Nat.le_of_eq W2.size.symm)
 have kp8 : Keep h0 h2 [r0] := kp0.wr W2 (Or.inl (List.mem_of_getElem? (i := 0) rfl))
 have N2 := Fr.snoc X2 N0 g_r0
 obtain ⟨T9, h9, X9, e9, W9, st9⟩ := putFN X2 hx hZ hown (hq hw 162 rfl) Via.refl e2 fa5 fa3 (Or.inr ⟨(hq hw 163 rfl), rfl, hnm⟩) (hq hw 154 rfl) (ty := .short) (v' := (.int (nar .short (p2.toInt16.toInt32)))) (by decide) rfl (fits_nar_short (p2.toInt16.toInt32)) (g := (mkF m 12 #[rv r0, iv p1, iv p2, iv p3] [(.int (p2.toInt16.toInt32)), (.ref r0)])) rfl rfl (hb hby d21_12)
 have fa10 := fa3.wr W9
 have fa11 := fa4.other W9 (Or.inr (slot_ne (Or.inr (hq hw 161 rfl)) (Or.inr (hq hw 163 rfl)) (by decide) (t := .int) (t' := .short) (by decide) (by decide)))
 have fa12 : Fld Z h9 r0 "java/time/LocalDate" "month" "S" (.int (nar .short (p2.toInt16.toInt32))) := fa5.same W9
 have fa13 := fa6.other W9 (Or.inr (slot_ne (Or.inr (hq hw 165 rfl)) (Or.inr (hq hw 163 rfl)) (by decide) (t := .short) (t' := .short) (by decide) (by decide)))
 have z14 : n0 ≤ h9.size := Nat.le_trans z7 (Nat.le_of_eq W9.size.symm)
 have kp15 : Keep h0 h9 [r0] := kp8.wr W9 (Or.inl (List.mem_of_getElem? (i := 0) rfl))
 have N9 := Fr.snoc X9 N2 g_r0
 obtain ⟨T16, h16, X16, e16, W16, st16⟩ := putFN X9 hx hZ hown (hq hw 164 rfl) Via.refl e9 fa13 fa10 (Or.inr ⟨(hq hw 165 rfl), rfl, hnm⟩) (hq hw 154 rfl) (ty := .short) (v' := (.int (nar .short (p3.toInt16.toInt32)))) (by decide) rfl (fits_nar_short (p3.toInt16.toInt32)) (g := (mkF m 18 #[rv r0, iv p1, iv p2, iv p3] [(.int (p3.toInt16.toInt32)), (.ref r0)])) rfl rfl (hb hby d21_18)
 have fa17 := fa10.wr W16
 have fa18 := fa11.other W16 (Or.inr (slot_ne (Or.inr (hq hw 161 rfl)) (Or.inr (hq hw 165 rfl)) (by decide) (t := .int) (t' := .short) (by decide) (by decide)))
 have fa19 := fa12.other W16 (Or.inr (slot_ne (Or.inr (hq hw 163 rfl)) (Or.inr (hq hw 165 rfl)) (by decide) (t := .short) (t' := .short) (by decide) (by decide)))
 have fa20 : Fld Z h16 r0 "java/time/LocalDate" "day" "S" (.int (nar .short (p3.toInt16.toInt32))) := fa13.same W16
 have z21 : n0 ≤ h16.size := Nat.le_trans z14 (Nat.le_of_eq W16.size.symm)
 have kp22 : Keep h0 h16 [r0] := kp15.wr W16 (Or.inl (List.mem_of_getElem? (i := 0) rfl))
 have N16 := Fr.snoc X16 N9 g_r0
 obtain ⟨fs, hr, hrun, hended, hW, hsame⟩ := X16.leave (v := none) (fun _ => rfl)
 refine ⟨_, _, G0 _ ?_, hrun, hended, _, _, rfl, ?_, ⟨_, rfl⟩, hW, hsame.mono (by decide) (by decide)⟩
 ·skip
  refine XS.aloadN X0.here hx rfl (hb hby d21_0) rfl rfl ?_
  refine st1 _ ?_
  refine XS.aloadN X1.here hx rfl (hb hby d21_4) rfl rfl ?_
  refine XS.iloadN X1.here hx rfl (hb hby d21_5) rfl ?_
  refine st2 _ ?_
  refine XS.aloadN X2.here hx rfl (hb hby d21_9) rfl rfl ?_
  refine XS.iloadN X2.here hx rfl (hb hby d21_10) rfl ?_
  refine XS.i2s X2.here hx rfl (hb hby d21_11) rfl ?_
  refine st9 _ ?_
  refine XS.aloadN X9.here hx rfl (hb hby d21_15) rfl rfl ?_
  refine XS.iloadN X9.here hx rfl (hb hby d21_16) rfl ?_
  refine XS.i2s X9.here hx rfl (hb hby d21_17) rfl ?_
  refine st16 _ ?_
  exact X16.returnOut hx Bd.returns (hb hby d21_21) hr
 ·show Q21 Z r0 p1 p2 p3 h0 n0 _ T16.heap _
  rw [e16]
  exact ⟨rfl, N16, kp22, fa17, fa18, by have q := fa19; rw [hmS] at q; exact q, by have q := fa20; rw [hdS] at q; exact q⟩
theorem d14_0 : decode jdk_2323_method_8_code 0 = .ok (.getstatic 161, 3) := by decide +kernel
theorem d14_3 : decode jdk_2323_method_8_code 3 = .ok (.lload_n 0, 1) := by decide +kernel
theorem d14_4 : decode jdk_2323_method_8_code 4 = .ok (.invokevirtual 45, 3) := by decide +kernel
theorem pd_4 : parseMethodDescriptor "(J)J" = some ⟨[.long], some .long⟩ := by decide +kernel
theorem d14_7 : decode jdk_2323_method_8_code 7 = .ok (.pop2, 1) := by decide +kernel
theorem d14_8 : decode jdk_2323_method_8_code 8 = .ok (.lload_n 0, 1) := by decide +kernel
theorem d14_9 : decode jdk_2323_method_8_code 9 = .ok (.ldc2_w 164, 3) := by decide +kernel
theorem d14_12 : decode jdk_2323_method_8_code 12 = .ok (.ladd, 1) := by decide +kernel
theorem d14_13 : decode jdk_2323_method_8_code 13 = .ok (.lstore_n 2, 1) := by decide +kernel
theorem d14_14 : decode jdk_2323_method_8_code 14 = .ok (.lload_n 2, 1) := by decide +kernel
theorem d14_15 : decode jdk_2323_method_8_code 15 = .ok (.ldc2_w 166, 3) := by decide +kernel
theorem d14_18 : decode jdk_2323_method_8_code 18 = .ok (.lsub, 1) := by decide +kernel
theorem d14_19 : decode jdk_2323_method_8_code 19 = .ok (.lstore_n 2, 1) := by decide +kernel
theorem d14_20 : decode jdk_2323_method_8_code 20 = .ok (.lconst 0, 1) := by decide +kernel
theorem d14_21 : decode jdk_2323_method_8_code 21 = .ok (.lstore 4, 2) := by decide +kernel
theorem d14_23 : decode jdk_2323_method_8_code 23 = .ok (.lload_n 2, 1) := by decide +kernel
theorem d14_24 : decode jdk_2323_method_8_code 24 = .ok (.lconst 0, 1) := by decide +kernel
theorem d14_25 : decode jdk_2323_method_8_code 25 = .ok (.lcmp, 1) := by decide +kernel
theorem d14_26 : decode jdk_2323_method_8_code 26 = .ok (.ifCond .ge 32, 3) := by decide +kernel
theorem d14_29 : decode jdk_2323_method_8_code 29 = .ok (.lload_n 2, 1) := by decide +kernel
theorem d14_30 : decode jdk_2323_method_8_code 30 = .ok (.lconst 1, 1) := by decide +kernel
theorem d14_31 : decode jdk_2323_method_8_code 31 = .ok (.ladd, 1) := by decide +kernel
theorem d14_32 : decode jdk_2323_method_8_code 32 = .ok (.ldc2_w 168, 3) := by decide +kernel
theorem d14_35 : decode jdk_2323_method_8_code 35 = .ok (.ldiv, 1) := by decide +kernel
theorem d14_36 : decode jdk_2323_method_8_code 36 = .ok (.lconst 1, 1) := by decide +kernel
theorem d14_37 : decode jdk_2323_method_8_code 37 = .ok (.lsub, 1) := by decide +kernel
theorem d14_38 : decode jdk_2323_method_8_code 38 = .ok (.lstore 6, 2) := by decide +kernel
theorem d14_40 : decode jdk_2323_method_8_code 40 = .ok (.lload 6, 2) := by decide +kernel
theorem d14_42 : decode jdk_2323_method_8_code 42 = .ok (.ldc2_w 170, 3) := by decide +kernel
theorem d14_45 : decode jdk_2323_method_8_code 45 = .ok (.lmul, 1) := by decide +kernel
theorem d14_46 : decode jdk_2323_method_8_code 46 = .ok (.lstore 4, 2) := by decide +kernel
theorem d14_48 : decode jdk_2323_method_8_code 48 = .ok (.lload_n 2, 1) := by decide +kernel
theorem d14_49 : decode jdk_2323_method_8_code 49 = .ok (.lload 6, 2) := by decide +kernel
theorem d14_51 : decode jdk_2323_method_8_code 51 = .ok (.lneg, 1) := by decide +kernel
theorem d14_52 : decode jdk_2323_method_8_code 52 = .ok (.ldc2_w 168, 3) := by decide +kernel
theorem d14_55 : decode jdk_2323_method_8_code 55 = .ok (.lmul, 1) := by decide +kernel
theorem d14_56 : decode jdk_2323_method_8_code 56 = .ok (.ladd, 1) := by decide +kernel
theorem d14_57 : decode jdk_2323_method_8_code 57 = .ok (.lstore_n 2, 1) := by decide +kernel
theorem d14_58 : decode jdk_2323_method_8_code 58 = .ok (.ldc2_w 170, 3) := by decide +kernel
theorem d14_61 : decode jdk_2323_method_8_code 61 = .ok (.lload_n 2, 1) := by decide +kernel
theorem d14_62 : decode jdk_2323_method_8_code 62 = .ok (.lmul, 1) := by decide +kernel
theorem d14_63 : decode jdk_2323_method_8_code 63 = .ok (.ldc2_w 172, 3) := by decide +kernel
theorem d14_66 : decode jdk_2323_method_8_code 66 = .ok (.ladd, 1) := by decide +kernel
theorem d14_67 : decode jdk_2323_method_8_code 67 = .ok (.ldc2_w 168, 3) := by decide +kernel
theorem d14_70 : decode jdk_2323_method_8_code 70 = .ok (.ldiv, 1) := by decide +kernel
theorem d14_71 : decode jdk_2323_method_8_code 71 = .ok (.lstore 6, 2) := by decide +kernel
theorem d14_73 : decode jdk_2323_method_8_code 73 = .ok (.lload_n 2, 1) := by decide +kernel
theorem d14_74 : decode jdk_2323_method_8_code 74 = .ok (.ldc2_w 174, 3) := by decide +kernel
theorem d14_77 : decode jdk_2323_method_8_code 77 = .ok (.lload 6, 2) := by decide +kernel
theorem d14_79 : decode jdk_2323_method_8_code 79 = .ok (.lmul, 1) := by decide +kernel
theorem d14_80 : decode jdk_2323_method_8_code 80 = .ok (.lload 6, 2) := by decide +kernel
theorem d14_82 : decode jdk_2323_method_8_code 82 = .ok (.ldc2_w 176, 3) := by decide +kernel
theorem d14_85 : decode jdk_2323_method_8_code 85 = .ok (.ldiv, 1) := by decide +kernel
theorem d14_86 : decode jdk_2323_method_8_code 86 = .ok (.ladd, 1) := by decide +kernel
theorem d14_87 : decode jdk_2323_method_8_code 87 = .ok (.lload 6, 2) := by decide +kernel
theorem d14_89 : decode jdk_2323_method_8_code 89 = .ok (.ldc2_w 178, 3) := by decide +kernel
theorem d14_92 : decode jdk_2323_method_8_code 92 = .ok (.ldiv, 1) := by decide +kernel
theorem d14_93 : decode jdk_2323_method_8_code 93 = .ok (.lsub, 1) := by decide +kernel
theorem d14_94 : decode jdk_2323_method_8_code 94 = .ok (.lload 6, 2) := by decide +kernel
theorem d14_96 : decode jdk_2323_method_8_code 96 = .ok (.ldc2_w 170, 3) := by decide +kernel
theorem d14_99 : decode jdk_2323_method_8_code 99 = .ok (.ldiv, 1) := by decide +kernel
theorem d14_100 : decode jdk_2323_method_8_code 100 = .ok (.ladd, 1) := by decide +kernel
theorem d14_101 : decode jdk_2323_method_8_code 101 = .ok (.lsub, 1) := by decide +kernel
theorem d14_102 : decode jdk_2323_method_8_code 102 = .ok (.lstore 8, 2) := by decide +kernel
theorem d14_104 : decode jdk_2323_method_8_code 104 = .ok (.lload 8, 2) := by decide +kernel
theorem d14_106 : decode jdk_2323_method_8_code 106 = .ok (.lconst 0, 1) := by decide +kernel
theorem d14_107 : decode jdk_2323_method_8_code 107 = .ok (.lcmp, 1) := by decide +kernel
theorem d14_108 : decode jdk_2323_method_8_code 108 = .ok (.ifCond .ge 40, 3) := by decide +kernel
theorem d14_111 : decode jdk_2323_method_8_code 111 = .ok (.lload 6, 2) := by decide +kernel
theorem d14_113 : decode jdk_2323_method_8_code 113 = .ok (.lconst 1, 1) := by decide +kernel
theorem d14_114 : decode jdk_2323_method_8_code 114 = .ok (.lsub, 1) := by decide +kernel
theorem d14_115 : decode jdk_2323_method_8_code 115 = .ok (.lstore 6, 2) := by decide +kernel
theorem d14_117 : decode jdk_2323_method_8_code 117 = .ok (.lload_n 2, 1) := by decide +kernel
theorem d14_118 : decode jdk_2323_method_8_code 118 = .ok (.ldc2_w 174, 3) := by decide +kernel
theorem d14_121 : decode jdk_2323_method_8_code 121 = .ok (.lload 6, 2) := by decide +kernel
theorem d14_123 : decode jdk_2323_method_8_code 123 = .ok (.lmul, 1) := by decide +kernel
theorem d14_124 : decode jdk_2323_method_8_code 124 = .ok (.lload 6, 2) := by decide +kernel
theorem d14_126 : decode jdk_2323_method_8_code 126 = .ok (.ldc2_w 176, 3) := by decide +kernel
theorem d14_129 : decode jdk_2323_method_8_code 129 = .ok (.ldiv, 1) := by decide +kernel
theorem d14_130 : decode jdk_2323_method_8_code 130 = .ok (.ladd, 1) := by decide +kernel
theorem d14_131 : decode jdk_2323_method_8_code 131 = .ok (.lload 6, 2) := by decide +kernel
theorem d14_133 : decode jdk_2323_method_8_code 133 = .ok (.ldc2_w 178, 3) := by decide +kernel
theorem d14_136 : decode jdk_2323_method_8_code 136 = .ok (.ldiv, 1) := by decide +kernel
theorem d14_137 : decode jdk_2323_method_8_code 137 = .ok (.lsub, 1) := by decide +kernel
theorem d14_138 : decode jdk_2323_method_8_code 138 = .ok (.lload 6, 2) := by decide +kernel
theorem d14_140 : decode jdk_2323_method_8_code 140 = .ok (.ldc2_w 170, 3) := by decide +kernel
theorem d14_143 : decode jdk_2323_method_8_code 143 = .ok (.ldiv, 1) := by decide +kernel
theorem d14_144 : decode jdk_2323_method_8_code 144 = .ok (.ladd, 1) := by decide +kernel
theorem d14_145 : decode jdk_2323_method_8_code 145 = .ok (.lsub, 1) := by decide +kernel
theorem d14_146 : decode jdk_2323_method_8_code 146 = .ok (.lstore 8, 2) := by decide +kernel
theorem d14_148 : decode jdk_2323_method_8_code 148 = .ok (.lload 6, 2) := by decide +kernel
theorem d14_150 : decode jdk_2323_method_8_code 150 = .ok (.lload 4, 2) := by decide +kernel
theorem d14_152 : decode jdk_2323_method_8_code 152 = .ok (.ladd, 1) := by decide +kernel
theorem d14_153 : decode jdk_2323_method_8_code 153 = .ok (.lstore 6, 2) := by decide +kernel
theorem d14_155 : decode jdk_2323_method_8_code 155 = .ok (.lload 8, 2) := by decide +kernel
theorem d14_157 : decode jdk_2323_method_8_code 157 = .ok (.l2i, 1) := by decide +kernel
theorem d14_158 : decode jdk_2323_method_8_code 158 = .ok (.istore 10, 2) := by decide +kernel
theorem d14_160 : decode jdk_2323_method_8_code 160 = .ok (.iload 10, 2) := by decide +kernel
theorem d14_162 : decode jdk_2323_method_8_code 162 = .ok (.iconst 5, 1) := by decide +kernel
theorem d14_163 : decode jdk_2323_method_8_code 163 = .ok (.imul, 1) := by decide +kernel
theorem d14_164 : decode jdk_2323_method_8_code 164 = .ok (.iconst 2, 1) := by decide +kernel
theorem d14_165 : decode jdk_2323_method_8_code 165 = .ok (.iadd, 1) := by decide +kernel
theorem d14_166 : decode jdk_2323_method_8_code 166 = .ok (.sipush 153, 3) := by decide +kernel
theorem d14_169 : decode jdk_2323_method_8_code 169 = .ok (.idiv, 1) := by decide +kernel
theorem d14_170 : decode jdk_2323_method_8_code 170 = .ok (.istore 11, 2) := by decide +kernel
theorem d14_172 : decode jdk_2323_method_8_code 172 = .ok (.iload 11, 2) := by decide +kernel
theorem d14_174 : decode jdk_2323_method_8_code 174 = .ok (.iconst 3, 1) := by decide +kernel
theorem d14_175 : decode jdk_2323_method_8_code 175 = .ok (.iadd, 1) := by decide +kernel
theorem d14_176 : decode jdk_2323_method_8_code 176 = .ok (.istore 12, 2) := by decide +kernel
theorem d14_178 : decode jdk_2323_method_8_code 178 = .ok (.iload 12, 2) := by decide +kernel
theorem d14_180 : decode jdk_2323_method_8_code 180 = .ok (.bipush 12, 2) := by decide +kernel
theorem d14_182 : decode jdk_2323_method_8_code 182 = .ok (.if_icmp .le 6, 3) := by decide +kernel
theorem d14_185 : decode jdk_2323_method_8_code 185 = .ok (.iinc 12 (-12), 3) := by decide +kernel
theorem d14_188 : decode jdk_2323_method_8_code 188 = .ok (.iload 10, 2) := by decide +kernel
theorem d14_190 : decode jdk_2323_method_8_code 190 = .ok (.iload 11, 2) := by decide +kernel
theorem d14_192 : decode jdk_2323_method_8_code 192 = .ok (.sipush 306, 3) := by decide +kernel
theorem d14_195 : decode jdk_2323_method_8_code 195 = .ok (.imul, 1) := by decide +kernel
theorem d14_196 : decode jdk_2323_method_8_code 196 = .ok (.iconst 5, 1) := by decide +kernel
theorem d14_197 : decode jdk_2323_method_8_code 197 = .ok (.iadd, 1) := by decide +kernel
theorem d14_198 : decode jdk_2323_method_8_code 198 = .ok (.bipush 10, 2) := by decide +kernel
theorem d14_200 : decode jdk_2323_method_8_code 200 = .ok (.idiv, 1) := by decide +kernel
theorem d14_201 : decode jdk_2323_method_8_code 201 = .ok (.isub, 1) := by decide +kernel
theorem d14_202 : decode jdk_2323_method_8_code 202 = .ok (.iconst 1, 1) := by decide +kernel
theorem d14_203 : decode jdk_2323_method_8_code 203 = .ok (.iadd, 1) := by decide +kernel
theorem d14_204 : decode jdk_2323_method_8_code 204 = .ok (.istore 13, 2) := by decide +kernel
theorem d14_206 : decode jdk_2323_method_8_code 206 = .ok (.iload 10, 2) := by decide +kernel
theorem d14_208 : decode jdk_2323_method_8_code 208 = .ok (.sipush 306, 3) := by decide +kernel
theorem d14_211 : decode jdk_2323_method_8_code 211 = .ok (.if_icmp .lt 9, 3) := by decide +kernel
theorem d14_214 : decode jdk_2323_method_8_code 214 = .ok (.lload 6, 2) := by decide +kernel
theorem d14_216 : decode jdk_2323_method_8_code 216 = .ok (.lconst 1, 1) := by decide +kernel
theorem d14_217 : decode jdk_2323_method_8_code 217 = .ok (.ladd, 1) := by decide +kernel
theorem d14_218 : decode jdk_2323_method_8_code 218 = .ok (.lstore 6, 2) := by decide +kernel
theorem d14_220 : decode jdk_2323_method_8_code 220 = .ok (.new 1, 3) := by decide +kernel
theorem d14_223 : decode jdk_2323_method_8_code 223 = .ok (.dup, 1) := by decide +kernel
theorem d14_224 : decode jdk_2323_method_8_code 224 = .ok (.lload 6, 2) := by decide +kernel
theorem d14_226 : decode jdk_2323_method_8_code 226 = .ok (.l2i, 1) := by decide +kernel
theorem d14_227 : decode jdk_2323_method_8_code 227 = .ok (.iload 12, 2) := by decide +kernel
theorem d14_229 : decode jdk_2323_method_8_code 229 = .ok (.iload 13, 2) := by decide +kernel
theorem d14_231 : decode jdk_2323_method_8_code 231 = .ok (.invokespecial 121, 3) := by decide +kernel
theorem pd_5 : parseMethodDescriptor "(III)V" = some ⟨[.int, .int, .int], none⟩ := by decide +kernel
theorem d14_234 : decode jdk_2323_method_8_code 234 = .ok (.areturn, 1) := by decide +kernel
def Q14 (Z : State) (q0 : Int64) (eN eA eC ps crr ads sw oe efd rfd eyr ryr bt bf ic : Addr) (ksw : ClassId) (h0 : Heap) (n0 : Nat) (v : Option Value) (h : Heap) (L : List Loc) : Prop := ∃ (b : Addr) (y m d : Int32), v = some (.ref b) ∧ Fr n0 L ∧ Keep h0 h [] ∧ Exa Z h b "java/time/LocalDate" ∧ Fld Z h b "java/time/LocalDate" "year" "I" (.int y) ∧ Fld Z h b "java/time/LocalDate" "month" "S" (.int m) ∧ Fld Z h b "java/time/LocalDate" "day" "S" (.int d) ∧ own_dt y m d (q0.toInt)
theorem ef_rm14 (m : MethodId) (x0 : Int64) : entryFrame m #[(.long x0)] 14 = mkF m 0 #[.val (.long x0), .second, .unset, .unset, .unset, .unset, .unset, .unset, .unset, .unset, .unset, .unset, .unset, .unset] [] := by first | (simp [entryFrame, mkF, argsToLocals, Value.category]; done) | rfl
set_option maxRecDepth 65536 in
set_option maxHeartbeats 40000000 in
theorem rm14 (l : Launch) (Z : State) (a0 : Array Value) (hw : ∀ d ∈ tables_1, d.before a0 Z = true) (ws : List Jvm.Cond) (q0 : Int64) (eN eA eC ps crr ads sw oe efd rfd eyr ryr bt bf ic : Addr) (ksw : ClassId) (h0 : Heap) (n0 : Nat) (Z0 : n0 ≤ h0.size) (O0 : Old Z n0 h0) (SS : Stw Z eN eA eC ps crr ads sw oe efd rfd eyr ryr bt bf ic ksw) (hq0 : -8589934592 ≤ q0.toInt ∧ q0.toInt ≤ 8589934592) :
  MetFree l (⟨"java/time/LocalDate", "ofEpochDay", "(J)Ljava/time/LocalDate;"⟩ : MethodName) (head1 (Jvm.Cond.code (⟨"java/time/LocalDate", "ofEpochDay", "(J)Ljava/time/LocalDate;"⟩ : MethodName) jdk_2323_method_8_code 14 (some (.object "java/time/LocalDate")) :: ws) ({ frames := 4, cells := 1, slots := 3, locals := 57 } : Room)) (fun a U => a = #[(.long q0)] ∧ Z.Warmed39 U.vm ∧ U.heap = h0) (fun _ _ _ _ _ => True) (fun _ U o U' => ∃ v L, o = .returned v ∧ Q14 Z q0 eN eA eC ps crr ads sw oe efd rfd eyr ryr bt bf ic ksw h0 n0 v U'.heap L ∧ FrameEnd U o U' L ({ frames := 4, cells := 1, slots := 3, locals := 57 } : Room).cells ({ frames := 4, cells := 1, slots := 3, locals := 57 } : Room).slots) := by
 refine MetFree.of_bodySF (plainFor_of_name pnc_java_time_LocalDate) hisR ?_
 intro p e s m args below meth c s₁ Bd hml0 hP hK
 obtain ⟨rfl, hZ, hh⟩ := hP
 have hx := Bd.exec
 have hby := Bd.bytes
 have hml : c.maxLocals = 14 := hml0
 have hown : s.vm.findClass "java/time/LocalDate" = some m.cls := findClass_of_methodNamed Bd.named
 have hnm := (name_of_methodNamed Bd.named Bd.method).1
 have X0 : Stand p l e ({ frames := 4, cells := 1, slots := 3, locals := 57 } : Room) s m #[(.long q0)] below meth c s₁ [] 0 0 := Stand.of_body Bd
 have e0 : s₁.heap = h0 := by rw [← hh, Bd.state]; rfl
 have N0 := Fr.nil n0
 have kp0 : Keep h0 h0 [] := Keep.refl _ _
 have G0 : ∀ t, Steps p.tables e below (s₁.setTop (mkF m 0 #[.val (.long q0), .second, .unset, .unset, .unset, .unset, .unset, .unset, .unset, .unset, .unset, .unset, .unset, .unset] [])) t → Steps p.tables e below (s₁.setTop (entryFrame m #[(.long q0)] 14)) t := fun t k => castTop (ef_rm14 m q0) k
 obtain ⟨T1, X1, e1, st1⟩ := getS2 X0 hx hZ hown (host := "") (Or.inl (hq hw 106 rfl)) Via.refl e0 (SS.2.2.2.2.2.2.2.2.1.ext O0.2) (g := (mkF m 0 #[.val (.long q0), .second, .unset, .unset, .unset, .unset, .unset, .unset, .unset, .unset, .unset, .unset, .unset, .unset] [])) rfl (hb hby d14_0)
 obtain ⟨cq2, kq2, q2a, q2b, q2c⟩ := isOf hZ e1 (SS.2.2.2.2.2.2.2.2.2.2.2.2.2.2.2.2.2.2.2.2.2.2.1.ext O0.2)
 obtain ⟨_, _, ⟨T2, L2, k2, n2⟩, -, X2, ⟨Lc2, hQ2, l2, y2, z2⟩, st2⟩ := X1.virtualBack hx (y := (⟨"java/time/temporal/ChronoField", "checkValidValue", "(J)J"⟩ : MethodName)) (z := (⟨"java/time/temporal/ChronoField", "checkValidValue", "(J)J"⟩ : MethodName)) hown (mvT hZ (hq hw 108 rfl)) (mvT hZ (hq hw 109 rfl)) (notFace_of_selects (args := #[]) (mvT hZ (hq hw 111 rfl))) (mvT hZ (hq hw 111 rfl)) (mvT hZ (hq hw 110 rfl)) (by decide) (backOf (W := 0) (rm15 l Z a0 hw [] efd q0 rfd (-365243219162 : Int64) (365241780471 : Int64) h0 n0 Z0 (SS.2.2.2.2.2.2.2.2.2.2.2.2.2.2.2.2.2.2.2.2.2.2.1.ext O0.2) (SS.2.2.2.2.2.2.2.2.2.2.2.2.2.2.2.2.2.2.2.2.2.2.2.1.ext O0.2) (SS.2.2.2.2.2.2.2.2.2.2.2.2.2.2.2.2.2.2.2.2.2.2.2.2.1.ext O0.2) (SS.2.2.2.2.2.2.2.2.2.2.2.2.2.2.2.2.2.2.2.2.2.2.2.2.2.1.ext O0.2) (SS.2.2.2.2.2.2.2.2.2.2.2.2.2.2.2.2.2.2.2.2.2.2.2.2.2.2.1.ext O0.2) (own_rq q0 hq0).1 (own_rq q0 hq0).2 ) hZ (hq hw 112 rfl) (hq hw 107 rfl) (by decide) (by decide)) q2a q2c (g := (mkF m 4 #[.val (.long q0), .second, .unset, .unset, .unset, .unset, .unset, .unset, .unset, .unset, .unset, .unset, .unset, .unset] [(.long q0), (.ref efd)])) rfl (by rw [hml]; rfl) (Steps.refl _) (argsL := [(.long q0)]) (rest := []) (lenOf pd_4 rfl) rfl (by show 2 * 0 + _ ≤ _; exact Nat.le_of_eq rfl) (hb hby d14_4) (fun _ _ => ⟨rfl, e1, (by decide : 0 + 0 ≤ _), (by decide : 0 + 0 ≤ _)⟩)
 dsimp only [Pt.U, Pt.locs, Pt.cells, Pt.slots] at X2 l2 y2 z2 st2 hQ2
 subst l2 y2 z2
 obtain ⟨rfl, N2q, eh2⟩ := hQ2
 have N2 := Fr.app N0 N2q
 have G3 : ∀ t, Steps p.tables e below (T2.setTop (mkF m 20 #[.val (.long q0), .second, .val (.long ((q0 + (719528 : Int64)) - (60 : Int64))), .second, .unset, .unset, .unset, .unset, .unset, .unset, .unset, .unset, .unset, .unset] [])) t → Steps p.tables e below (s₁.setTop (entryFrame m #[(.long q0)] 14)) t := by
  intro t kt
  refine G0 _ ?_
  refine st1 _ ?_
  refine XS.lloadN X1.here hx rfl (hb hby d14_3) rfl ?_
  refine st2.trans ?_
  jvm_step X2.here [X2.here.top, hx, (hb hby d14_7), Value.category]
  refine XS.lloadN X2.here hx rfl (hb hby d14_8) rfl ?_
  refine X2.ldc2Long hx hown (mvT hZ (hq hw 145 rfl)) (g := (mkF m 9 #[.val (.long q0), .second, .unset, .unset, .unset, .unset, .unset, .unset, .unset, .unset, .unset, .unset, .unset, .unset] [(.long q0)])) rfl (hb hby d14_9) _ ?_
  refine XS.ladd X2.here hx rfl (hb hby d14_12) rfl ?_
  refine XS.lstoreN X2.here hx rfl (hb hby d14_13) rfl (l' := #[.val (.long q0), .second, .val (.long (q0 + (719528 : Int64))), .second, .unset, .unset, .unset, .unset, .unset, .unset, .unset, .unset, .unset, .unset]) rfl ?_
  refine XS.lloadN X2.here hx rfl (hb hby d14_14) rfl ?_
  refine X2.ldc2Long hx hown (mvT hZ (hq hw 146 rfl)) (g := (mkF m 15 #[.val (.long q0), .second, .val (.long (q0 + (719528 : Int64))), .second, .unset, .unset, .unset, .unset, .unset, .unset, .unset, .unset, .unset, .unset] [(.long (q0 + (719528 : Int64)))])) rfl (hb hby d14_15) _ ?_
  refine XS.lsub X2.here hx rfl (hb hby d14_18) rfl ?_
  refine XS.lstoreN X2.here hx rfl (hb hby d14_19) rfl (l' := #[.val (.long q0), .second, .val (.long ((q0 + (719528 : Int64)) - (60 : Int64))), .second, .unset, .unset, .unset, .unset, .unset, .unset, .unset, .unset, .unset, .unset]) rfl ?_
  exact kt
 obtain ⟨zo, hzo⟩ : ∃ z : Int64, z = ((q0 + (719528 : Int64)) - (60 : Int64)) := ⟨_, rfl⟩
 have G4 : ∀ t, Steps p.tables e below (T2.setTop (mkF m 20 #[.val (.long q0), .second, .val (.long zo), .second, .unset, .unset, .unset, .unset, .unset, .unset, .unset, .unset, .unset, .unset] [])) t → Steps p.tables e below (s₁.setTop (entryFrame m #[(.long q0)] 14)) t := by
  intro t kt
  rw [hzo] at kt
  exact G3 t kt
 have hz' : zo.toInt = q0.toInt + 719468 := by rw [hzo]; exact own_o0 q0 hq0
 have G5 : ∀ t, Steps p.tables e below (T2.setTop (mkF m 26 #[.val (.long q0), .second, .val (.long zo), .second, .val (.long (0 : Int64)), .second, .unset, .unset, .unset, .unset, .unset, .unset, .unset, .unset] [(.int (lcmpW zo (0 : Int64)))])) t → Steps p.tables e below (s₁.setTop (entryFrame m #[(.long q0)] 14)) t := by
  intro t kt
  refine G4 _ ?_
  refine XS.lconst X2.here hx rfl (hb hby d14_20) ?_
  refine XS.lstore X2.here hx rfl (hb hby d14_21) rfl (l' := #[.val (.long q0), .second, .val (.long zo), .second, .val (.long (0 : Int64)), .second, .unset, .unset, .unset, .unset, .unset, .unset, .unset, .unset]) rfl ?_
  refine XS.lloadN X2.here hx rfl (hb hby d14_23) rfl ?_
  refine XS.lconst X2.here hx rfl (hb hby d14_24) ?_
  refine XS.lcmp X2.here hx rfl (hb hby d14_25) rfl ?_
  exact kt
 by_cases hc26_6 : zo < (0 : Int64)
 ·skip
  have G7 : ∀ t, Steps p.tables e below (T2.setTop (mkF m 40 #[.val (.long q0), .second, .val (.long zo), .second, .val (.long (0 : Int64)), .second, .val (.long (((zo + (1 : Int64)) / (146097 : Int64)) - (1 : Int64))), .second, .unset, .unset, .unset, .unset, .unset, .unset] [])) t → Steps p.tables e below (s₁.setTop (entryFrame m #[(.long q0)] 14)) t := by
   intro t kt
   refine G5 _ ?_
   refine XS.ifNo X2.here hx rfl (hb hby d14_26) rfl ((if0 _ _).trans (tlt ((lw_lt _ _).mpr hc26_6)).2.1) ?_
   refine XS.lloadN X2.here hx rfl (hb hby d14_29) rfl ?_
   refine XS.lconst X2.here hx rfl (hb hby d14_30) ?_
   show Steps p.tables e below (T2.setTop (mkF m 31 #[.val (.long q0), .second, .val (.long zo), .second, .val (.long (0 : Int64)), .second, .unset, .unset, .unset, .unset, .unset, .unset, .unset, .unset] [(.long (1 : Int64)), (.long zo)])) _
   refine XS.ladd X2.here hx rfl (hb hby d14_31) rfl ?_
   refine X2.ldc2Long hx hown (mvT hZ (hq hw 149 rfl)) (g := (mkF m 32 #[.val (.long q0), .second, .val (.long zo), .second, .val (.long (0 : Int64)), .second, .unset, .unset, .unset, .unset, .unset, .unset, .unset, .unset] [(.long (zo + (1 : Int64)))])) rfl (hb hby d14_32) _ ?_
   refine XS.ldiv X2.here hx rfl (hb hby d14_35) rfl (by decide) ?_
   refine XS.lconst X2.here hx rfl (hb hby d14_36) ?_
   refine XS.lsub X2.here hx rfl (hb hby d14_37) rfl ?_
   refine XS.lstore X2.here hx rfl (hb hby d14_38) rfl (l' := #[.val (.long q0), .second, .val (.long zo), .second, .val (.long (0 : Int64)), .second, .val (.long (((zo + (1 : Int64)) / (146097 : Int64)) - (1 : Int64))), .second, .unset, .unset, .unset, .unset, .unset, .unset]) rfl ?_
   exact kt
  obtain ⟨cy, hcy⟩ : ∃ z : Int64, z = (((zo + (1 : Int64)) / (146097 : Int64)) - (1 : Int64)) := ⟨_, rfl⟩
  have G8 : ∀ t, Steps p.tables e below (T2.setTop (mkF m 40 #[.val (.long q0), .second, .val (.long zo), .second, .val (.long (0 : Int64)), .second, .val (.long cy), .second, .unset, .unset, .unset, .unset, .unset, .unset] [])) t → Steps p.tables e below (s₁.setTop (entryFrame m #[(.long q0)] 14)) t := by
   intro t kt
   rw [hcy] at kt
   exact G7 t kt
  have G9 : ∀ t, Steps p.tables e below (T2.setTop (mkF m 58 #[.val (.long q0), .second, .val (.long (zo + ((-cy) * (146097 : Int64)))), .second, .val (.long (cy * (400 : Int64))), .second, .val (.long cy), .second, .unset, .unset, .unset, .unset, .unset, .unset] [])) t → Steps p.tables e below (s₁.setTop (entryFrame m #[(.long q0)] 14)) t := by
   intro t kt
   refine G8 _ ?_
   refine XS.lload X2.here hx rfl (hb hby d14_40) rfl ?_
   refine X2.ldc2Long hx hown (mvT hZ (hq hw 147 rfl)) (g := (mkF m 42 #[.val (.long q0), .second, .val (.long zo), .second, .val (.long (0 : Int64)), .second, .val (.long cy), .second, .unset, .unset, .unset, .unset, .unset, .unset] [(.long cy)])) rfl (hb hby d14_42) _ ?_
   refine XS.lmul X2.here hx rfl (hb hby d14_45) rfl ?_
   refine XS.lstore X2.here hx rfl (hb hby d14_46) rfl (l' := #[.val (.long q0), .second, .val (.long zo), .second, .val (.long (cy * (400 : Int64))), .second, .val (.long cy), .second, .unset, .unset, .unset, .unset, .unset, .unset]) rfl ?_
   refine XS.lloadN X2.here hx rfl (hb hby d14_48) rfl ?_
   refine XS.lload X2.here hx rfl (hb hby d14_49) rfl ?_
   refine XS.lneg X2.here hx rfl (hb hby d14_51) rfl ?_
   refine X2.ldc2Long hx hown (mvT hZ (hq hw 149 rfl)) (g := (mkF m 52 #[.val (.long q0), .second, .val (.long zo), .second, .val (.long (cy * (400 : Int64))), .second, .val (.long cy), .second, .unset, .unset, .unset, .unset, .unset, .unset] [(.long (-cy)), (.long zo)])) rfl (hb hby d14_52) _ ?_
   refine XS.lmul X2.here hx rfl (hb hby d14_55) rfl ?_
   refine XS.ladd X2.here hx rfl (hb hby d14_56) rfl ?_
   refine XS.lstoreN X2.here hx rfl (hb hby d14_57) rfl (l' := #[.val (.long q0), .second, .val (.long (zo + ((-cy) * (146097 : Int64)))), .second, .val (.long (cy * (400 : Int64))), .second, .val (.long cy), .second, .unset, .unset, .unset, .unset, .unset, .unset]) rfl ?_
   exact kt
  obtain ⟨zz, hzz⟩ : ∃ z : Int64, z = (zo + ((-cy) * (146097 : Int64))) := ⟨_, rfl⟩
  obtain ⟨ad, had⟩ : ∃ z : Int64, z = (cy * (400 : Int64)) := ⟨_, rfl⟩
  have G10 : ∀ t, Steps p.tables e below (T2.setTop (mkF m 58 #[.val (.long q0), .second, .val (.long zz), .second, .val (.long ad), .second, .val (.long cy), .second, .unset, .unset, .unset, .unset, .unset, .unset] [])) t → Steps p.tables e below (s₁.setTop (entryFrame m #[(.long q0)] 14)) t := by
   intro t kt
   rw [hzz, had] at kt
   exact G9 t kt
  obtain ⟨cq, OC⟩ : ∃ cq : Int, own_Oc zo zz ad cq := ⟨_, by rw [hzz, had]; exact own_o2 zo cy hcy hc26_6 (by omega)⟩
  have bz : 0 ≤ zz.toInt ∧ zz.toInt ≤ 8600000000 := ⟨OC.2.2.1, OC.2.2.2.1⟩
  have G11 : ∀ t, Steps p.tables e below (T2.setTop (mkF m 73 #[.val (.long q0), .second, .val (.long zz), .second, .val (.long ad), .second, .val (.long ((((400 : Int64) * zz) + (591 : Int64)) / (146097 : Int64))), .second, .unset, .unset, .unset, .unset, .unset, .unset] [])) t → Steps p.tables e below (s₁.setTop (entryFrame m #[(.long q0)] 14)) t := by
   intro t kt
   refine G10 _ ?_
   refine X2.ldc2Long hx hown (mvT hZ (hq hw 147 rfl)) (g := (mkF m 58 #[.val (.long q0), .second, .val (.long zz), .second, .val (.long ad), .second, .val (.long cy), .second, .unset, .unset, .unset, .unset, .unset, .unset] [])) rfl (hb hby d14_58) _ ?_
   refine XS.lloadN X2.here hx rfl (hb hby d14_61) rfl ?_
   refine XS.lmul X2.here hx rfl (hb hby d14_62) rfl ?_
   show Steps p.tables e below (T2.setTop (mkF m 63 #[.val (.long q0), .second, .val (.long zz), .second, .val (.long ad), .second, .val (.long cy), .second, .unset, .unset, .unset, .unset, .unset, .unset] [(.long ((400 : Int64) * zz))])) _
   refine X2.ldc2Long hx hown (mvT hZ (hq hw 148 rfl)) (g := (mkF m 63 #[.val (.long q0), .second, .val (.long zz), .second, .val (.long ad), .second, .val (.long cy), .second, .unset, .unset, .unset, .unset, .unset, .unset] [(.long ((400 : Int64) * zz))])) rfl (hb hby d14_63) _ ?_
   refine XS.ladd X2.here hx rfl (hb hby d14_66) rfl ?_
   refine X2.ldc2Long hx hown (mvT hZ (hq hw 149 rfl)) (g := (mkF m 67 #[.val (.long q0), .second, .val (.long zz), .second, .val (.long ad), .second, .val (.long cy), .second, .unset, .unset, .unset, .unset, .unset, .unset] [(.long (((400 : Int64) * zz) + (591 : Int64)))])) rfl (hb hby d14_67) _ ?_
   refine XS.ldiv X2.here hx rfl (hb hby d14_70) rfl (by decide) ?_
   refine XS.lstore X2.here hx rfl (hb hby d14_71) rfl (l' := #[.val (.long q0), .second, .val (.long zz), .second, .val (.long ad), .second, .val (.long ((((400 : Int64) * zz) + (591 : Int64)) / (146097 : Int64))), .second, .unset, .unset, .unset, .unset, .unset, .unset]) rfl ?_
   exact kt
  obtain ⟨ye, hye⟩ : ∃ z : Int64, z = ((((400 : Int64) * zz) + (591 : Int64)) / (146097 : Int64)) := ⟨_, rfl⟩
  have G12 : ∀ t, Steps p.tables e below (T2.setTop (mkF m 73 #[.val (.long q0), .second, .val (.long zz), .second, .val (.long ad), .second, .val (.long ye), .second, .unset, .unset, .unset, .unset, .unset, .unset] [])) t → Steps p.tables e below (s₁.setTop (entryFrame m #[(.long q0)] 14)) t := by
   intro t kt
   rw [hye] at kt
   exact G11 t kt
  have G13 : ∀ t, Steps p.tables e below (T2.setTop (mkF m 104 #[.val (.long q0), .second, .val (.long zz), .second, .val (.long ad), .second, .val (.long ye), .second, .val (.long (zz - (((((365 : Int64) * ye) + (ye / (4 : Int64))) - (ye / (100 : Int64))) + (ye / (400 : Int64))))), .second, .unset, .unset, .unset, .unset] [])) t → Steps p.tables e below (s₁.setTop (entryFrame m #[(.long q0)] 14)) t := by
   intro t kt
   refine G12 _ ?_
   refine XS.lloadN X2.here hx rfl (hb hby d14_73) rfl ?_
   refine X2.ldc2Long hx hown (mvT hZ (hq hw 150 rfl)) (g := (mkF m 74 #[.val (.long q0), .second, .val (.long zz), .second, .val (.long ad), .second, .val (.long ye), .second, .unset, .unset, .unset, .unset, .unset, .unset] [(.long zz)])) rfl (hb hby d14_74) _ ?_
   refine XS.lload X2.here hx rfl (hb hby d14_77) rfl ?_
   refine XS.lmul X2.here hx rfl (hb hby d14_79) rfl ?_
   refine XS.lload X2.here hx rfl (hb hby d14_80) rfl ?_
   refine X2.ldc2Long hx hown (mvT hZ (hq hw 151 rfl)) (g := (mkF m 82 #[.val (.long q0), .second, .val (.long zz), .second, .val (.long ad), .second, .val (.long ye), .second, .unset, .unset, .unset, .unset, .unset, .unset] [(.long ye), (.long ((365 : Int64) * ye)), (.long zz)])) rfl (hb hby d14_82) _ ?_
   refine XS.ldiv X2.here hx rfl (hb hby d14_85) rfl (by decide) ?_
   refine XS.ladd X2.here hx rfl (hb hby d14_86) rfl ?_
   refine XS.lload X2.here hx rfl (hb hby d14_87) rfl ?_
   refine X2.ldc2Long hx hown (mvT hZ (hq hw 152 rfl)) (g := (mkF m 89 #[.val (.long q0), .second, .val (.long zz), .second, .val (.long ad), .second, .val (.long ye), .second, .unset, .unset, .unset, .unset, .unset, .unset] [(.long ye), (.long (((365 : Int64) * ye) + (ye / (4 : Int64)))), (.long zz)])) rfl (hb hby d14_89) _ ?_
   refine XS.ldiv X2.here hx rfl (hb hby d14_92) rfl (by decide) ?_
   refine XS.lsub X2.here hx rfl (hb hby d14_93) rfl ?_
   refine XS.lload X2.here hx rfl (hb hby d14_94) rfl ?_
   refine X2.ldc2Long hx hown (mvT hZ (hq hw 147 rfl)) (g := (mkF m 96 #[.val (.long q0), .second, .val (.long zz), .second, .val (.long ad), .second, .val (.long ye), .second, .unset, .unset, .unset, .unset, .unset, .unset] [(.long ye), (.long ((((365 : Int64) * ye) + (ye / (4 : Int64))) - (ye / (100 : Int64)))), (.long zz)])) rfl (hb hby d14_96) _ ?_
   refine XS.ldiv X2.here hx rfl (hb hby d14_99) rfl (by decide) ?_
   show Steps p.tables e below (T2.setTop (mkF m 100 #[.val (.long q0), .second, .val (.long zz), .second, .val (.long ad), .second, .val (.long ye), .second, .unset, .unset, .unset, .unset, .unset, .unset] [(.long (ye / (400 : Int64))), (.long ((((365 : Int64) * ye) + (ye / (4 : Int64))) - (ye / (100 : Int64)))), (.long zz)])) _
   refine XS.ladd X2.here hx rfl (hb hby d14_100) rfl ?_
   refine XS.lsub X2.here hx rfl (hb hby d14_101) rfl ?_
   refine XS.lstore X2.here hx rfl (hb hby d14_102) rfl (l' := #[.val (.long q0), .second, .val (.long zz), .second, .val (.long ad), .second, .val (.long ye), .second, .val (.long (zz - (((((365 : Int64) * ye) + (ye / (4 : Int64))) - (ye / (100 : Int64))) + (ye / (400 : Int64))))), .second, .unset, .unset, .unset, .unset]) rfl ?_
   exact kt
  obtain ⟨dy, hdy⟩ : ∃ z : Int64, z = (zz - (((((365 : Int64) * ye) + (ye / (4 : Int64))) - (ye / (100 : Int64))) + (ye / (400 : Int64)))) := ⟨_, rfl⟩
  have G14 : ∀ t, Steps p.tables e below (T2.setTop (mkF m 104 #[.val (.long q0), .second, .val (.long zz), .second, .val (.long ad), .second, .val (.long ye), .second, .val (.long dy), .second, .unset, .unset, .unset, .unset] [])) t → Steps p.tables e below (s₁.setTop (entryFrame m #[(.long q0)] 14)) t := by
   intro t kt
   rw [hdy] at kt
   exact G13 t kt
  have hdy' : dy = own_fx zz ye := hdy
  obtain ⟨j15, hj15⟩ : ∃ z : Int64, z = (if dy < (0 : Int64) then (ye - (1 : Int64)) else ye) := ⟨_, rfl⟩
  obtain ⟨j16, hj16⟩ : ∃ z : Int64, z = (if dy < (0 : Int64) then (zz - (((((365 : Int64) * (ye - (1 : Int64))) + ((ye - (1 : Int64)) / (4 : Int64))) - ((ye - (1 : Int64)) / (100 : Int64))) + ((ye - (1 : Int64)) / (400 : Int64)))) else dy) := ⟨_, rfl⟩
  have G17 : ∀ t, Steps p.tables e below (T2.setTop (mkF m 148 #[.val (.long q0), .second, .val (.long zz), .second, .val (.long ad), .second, .val (.long j15), .second, .val (.long j16), .second, .unset, .unset, .unset, .unset] [])) t → Steps p.tables e below (s₁.setTop (entryFrame m #[(.long q0)] 14)) t := by
   intro t kt
   have G18 : ∀ t, Steps p.tables e below (T2.setTop (mkF m 108 #[.val (.long q0), .second, .val (.long zz), .second, .val (.long ad), .second, .val (.long ye), .second, .val (.long dy), .second, .unset, .unset, .unset, .unset] [(.int (lcmpW dy (0 : Int64)))])) t → Steps p.tables e below (s₁.setTop (entryFrame m #[(.long q0)] 14)) t := by
    intro t kt
    refine G14 _ ?_
    refine XS.lload X2.here hx rfl (hb hby d14_104) rfl ?_
    refine XS.lconst X2.here hx rfl (hb hby d14_106) ?_
    refine XS.lcmp X2.here hx rfl (hb hby d14_107) rfl ?_
    exact kt
   by_cases hc108_19 : dy < (0 : Int64)
   ·skip
    rw [show j15 = (ye - (1 : Int64)) from by rw [hj15, if_pos hc108_19]] at kt
    rw [show j16 = (zz - (((((365 : Int64) * (ye - (1 : Int64))) + ((ye - (1 : Int64)) / (4 : Int64))) - ((ye - (1 : Int64)) / (100 : Int64))) + ((ye - (1 : Int64)) / (400 : Int64)))) from by rw [hj16, if_pos hc108_19]] at kt
    refine G18 _ ?_
    refine XS.ifNo X2.here hx rfl (hb hby d14_108) rfl ((if0 _ _).trans (tlt ((lw_lt _ _).mpr hc108_19)).2.1) ?_
    refine XS.lload X2.here hx rfl (hb hby d14_111) rfl ?_
    refine XS.lconst X2.here hx rfl (hb hby d14_113) ?_
    refine XS.lsub X2.here hx rfl (hb hby d14_114) rfl ?_
    refine XS.lstore X2.here hx rfl (hb hby d14_115) rfl (l' := #[.val (.long q0), .second, .val (.long zz), .second, .val (.long ad), .second, .val (.long (ye - (1 : Int64))), .second, .val (.long dy), .second, .unset, .unset, .unset, .unset]) rfl ?_
    refine XS.lloadN X2.here hx rfl (hb hby d14_117) rfl ?_
    refine X2.ldc2Long hx hown (mvT hZ (hq hw 150 rfl)) (g := (mkF m 118 #[.val (.long q0), .second, .val (.long zz), .second, .val (.long ad), .second, .val (.long (ye - (1 : Int64))), .second, .val (.long dy), .second, .unset, .unset, .unset, .unset] [(.long zz)])) rfl (hb hby d14_118) _ ?_
    refine XS.lload X2.here hx rfl (hb hby d14_121) rfl ?_
    refine XS.lmul X2.here hx rfl (hb hby d14_123) rfl ?_
    refine XS.lload X2.here hx rfl (hb hby d14_124) rfl ?_
    refine X2.ldc2Long hx hown (mvT hZ (hq hw 151 rfl)) (g := (mkF m 126 #[.val (.long q0), .second, .val (.long zz), .second, .val (.long ad), .second, .val (.long (ye - (1 : Int64))), .second, .val (.long dy), .second, .unset, .unset, .unset, .unset] [(.long (ye - (1 : Int64))), (.long ((365 : Int64) * (ye - (1 : Int64)))), (.long zz)])) rfl (hb hby d14_126) _ ?_
    refine XS.ldiv X2.here hx rfl (hb hby d14_129) rfl (by decide) ?_
    refine XS.ladd X2.here hx rfl (hb hby d14_130) rfl ?_
    refine XS.lload X2.here hx rfl (hb hby d14_131) rfl ?_
    refine X2.ldc2Long hx hown (mvT hZ (hq hw 152 rfl)) (g := (mkF m 133 #[.val (.long q0), .second, .val (.long zz), .second, .val (.long ad), .second, .val (.long (ye - (1 : Int64))), .second, .val (.long dy), .second, .unset, .unset, .unset, .unset] [(.long (ye - (1 : Int64))), (.long (((365 : Int64) * (ye - (1 : Int64))) + ((ye - (1 : Int64)) / (4 : Int64)))), (.long zz)])) rfl (hb hby d14_133) _ ?_
    show Steps p.tables e below (T2.setTop (mkF m 136 #[.val (.long q0), .second, .val (.long zz), .second, .val (.long ad), .second, .val (.long (ye - (1 : Int64))), .second, .val (.long dy), .second, .unset, .unset, .unset, .unset] [(.long (100 : Int64)), (.long (ye - (1 : Int64))), (.long (((365 : Int64) * (ye - (1 : Int64))) + ((ye - (1 : Int64)) / (4 : Int64)))), (.long zz)])) _
    refine XS.ldiv X2.here hx rfl (hb hby d14_136) rfl (by decide) ?_
    refine XS.lsub X2.here hx rfl (hb hby d14_137) rfl ?_
    refine XS.lload X2.here hx rfl (hb hby d14_138) rfl ?_
    refine X2.ldc2Long hx hown (mvT hZ (hq hw 147 rfl)) (g := (mkF m 140 #[.val (.long q0), .second, .val (.long zz), .second, .val (.long ad), .second, .val (.long (ye - (1 : Int64))), .second, .val (.long dy), .second, .unset, .unset, .unset, .unset] [(.long (ye - (1 : Int64))), (.long ((((365 : Int64) * (ye - (1 : Int64))) + ((ye - (1 : Int64)) / (4 : Int64))) - ((ye - (1 : Int64)) / (100 : Int64)))), (.long zz)])) rfl (hb hby d14_140) _ ?_
    refine XS.ldiv X2.here hx rfl (hb hby d14_143) rfl (by decide) ?_
    refine XS.ladd X2.here hx rfl (hb hby d14_144) rfl ?_
    refine XS.lsub X2.here hx rfl (hb hby d14_145) rfl ?_
    refine XS.lstore X2.here hx rfl (hb hby d14_146) rfl (l' := #[.val (.long q0), .second, .val (.long zz), .second, .val (.long ad), .second, .val (.long (ye - (1 : Int64))), .second, .val (.long (zz - (((((365 : Int64) * (ye - (1 : Int64))) + ((ye - (1 : Int64)) / (4 : Int64))) - ((ye - (1 : Int64)) / (100 : Int64))) + ((ye - (1 : Int64)) / (400 : Int64))))), .second, .unset, .unset, .unset, .unset]) rfl ?_
    exact kt
   ·skip
    rw [show j15 = ye from by rw [hj15, if_neg hc108_19]] at kt
    rw [show j16 = dy from by rw [hj16, if_neg hc108_19]] at kt
    refine G18 _ ?_
    refine XS.ifYes X2.here hx rfl (pc0 := 108) (pc' := 148) rfl (hb hby d14_108) rfl ((if0 _ _).trans (flt (fun q => hc108_19 ((lw_lt _ _).mp q))).2.1) (by decide) (by decide) ?_
    exact kt
  have YD : own_Yd zz j15 j16 := by
   by_cases hq : dy < (0 : Int64)
   ·rw [hj15, hj16, if_pos hq, if_pos hq]; exact own_o5 zz ye dy bz hye hdy' hq
   ·rw [hj15, hj16, if_neg hq, if_neg hq]; exact own_o4 zz ye dy bz hye hdy' hq
  have G20 : ∀ t, Steps p.tables e below (T2.setTop (mkF m 155 #[.val (.long q0), .second, .val (.long zz), .second, .val (.long ad), .second, .val (.long (j15 + ad)), .second, .val (.long j16), .second, .unset, .unset, .unset, .unset] [])) t → Steps p.tables e below (s₁.setTop (entryFrame m #[(.long q0)] 14)) t := by
   intro t kt
   refine G17 _ ?_
   refine XS.lload X2.here hx rfl (hb hby d14_148) rfl ?_
   refine XS.lload X2.here hx rfl (hb hby d14_150) rfl ?_
   refine XS.ladd X2.here hx rfl (hb hby d14_152) rfl ?_
   refine XS.lstore X2.here hx rfl (hb hby d14_153) rfl (l' := #[.val (.long q0), .second, .val (.long zz), .second, .val (.long ad), .second, .val (.long (j15 + ad)), .second, .val (.long j16), .second, .unset, .unset, .unset, .unset]) rfl ?_
   exact kt
  obtain ⟨yy, hyy⟩ : ∃ z : Int64, z = (j15 + ad) := ⟨_, rfl⟩
  have G21 : ∀ t, Steps p.tables e below (T2.setTop (mkF m 155 #[.val (.long q0), .second, .val (.long zz), .second, .val (.long ad), .second, .val (.long yy), .second, .val (.long j16), .second, .unset, .unset, .unset, .unset] [])) t → Steps p.tables e below (s₁.setTop (entryFrame m #[(.long q0)] 14)) t := by
   intro t kt
   rw [hyy] at kt
   exact G20 t kt
  have G22 : ∀ t, Steps p.tables e below (T2.setTop (mkF m 160 #[.val (.long q0), .second, .val (.long zz), .second, .val (.long ad), .second, .val (.long yy), .second, .val (.long j16), .second, iv (j16.toInt32), .unset, .unset, .unset] [])) t → Steps p.tables e below (s₁.setTop (entryFrame m #[(.long q0)] 14)) t := by
   intro t kt
   refine G21 _ ?_
   refine XS.lload X2.here hx rfl (hb hby d14_155) rfl ?_
   refine XS.l2i X2.here hx rfl (hb hby d14_157) rfl ?_
   refine XS.istore X2.here hx rfl (hb hby d14_158) rfl (l' := #[.val (.long q0), .second, .val (.long zz), .second, .val (.long ad), .second, .val (.long yy), .second, .val (.long j16), .second, iv (j16.toInt32), .unset, .unset, .unset]) rfl ?_
   exact kt
  obtain ⟨dq, hdq⟩ : ∃ z : Int32, z = (j16.toInt32) := ⟨_, rfl⟩
  have G23 : ∀ t, Steps p.tables e below (T2.setTop (mkF m 160 #[.val (.long q0), .second, .val (.long zz), .second, .val (.long ad), .second, .val (.long yy), .second, .val (.long j16), .second, iv dq, .unset, .unset, .unset] [])) t → Steps p.tables e below (s₁.setTop (entryFrame m #[(.long q0)] 14)) t := by
   intro t kt
   rw [hdq] at kt
   exact G22 t kt
  have G24 : ∀ t, Steps p.tables e below (T2.setTop (mkF m 172 #[.val (.long q0), .second, .val (.long zz), .second, .val (.long ad), .second, .val (.long yy), .second, .val (.long j16), .second, iv dq, iv (((dq * (5 : Int32)) + (2 : Int32)) / (153 : Int32)), .unset, .unset] [])) t → Steps p.tables e below (s₁.setTop (entryFrame m #[(.long q0)] 14)) t := by
   intro t kt
   refine G23 _ ?_
   refine XS.iload X2.here hx rfl (hb hby d14_160) rfl ?_
   refine XS.iconst X2.here hx rfl (hb hby d14_162) ?_
   refine XS.imul X2.here hx rfl (hb hby d14_163) rfl ?_
   refine XS.iconst X2.here hx rfl (hb hby d14_164) ?_
   refine XS.iadd X2.here hx rfl (hb hby d14_165) rfl ?_
   refine XS.sipush X2.here hx rfl (hb hby d14_166) ?_
   refine XS.idiv X2.here hx rfl (hb hby d14_169) rfl (by decide) ?_
   refine XS.istore X2.here hx rfl (hb hby d14_170) rfl (l' := #[.val (.long q0), .second, .val (.long zz), .second, .val (.long ad), .second, .val (.long yy), .second, .val (.long j16), .second, iv dq, iv (((dq * (5 : Int32)) + (2 : Int32)) / (153 : Int32)), .unset, .unset]) rfl ?_
   exact kt
  obtain ⟨mm, hmm⟩ : ∃ z : Int32, z = (((dq * (5 : Int32)) + (2 : Int32)) / (153 : Int32)) := ⟨_, rfl⟩
  have G25 : ∀ t, Steps p.tables e below (T2.setTop (mkF m 172 #[.val (.long q0), .second, .val (.long zz), .second, .val (.long ad), .second, .val (.long yy), .second, .val (.long j16), .second, iv dq, iv mm, .unset, .unset] [])) t → Steps p.tables e below (s₁.setTop (entryFrame m #[(.long q0)] 14)) t := by
   intro t kt
   rw [hmm] at kt
   exact G24 t kt
  have G26 : ∀ t, Steps p.tables e below (T2.setTop (mkF m 178 #[.val (.long q0), .second, .val (.long zz), .second, .val (.long ad), .second, .val (.long yy), .second, .val (.long j16), .second, iv dq, iv mm, iv (mm + (3 : Int32)), .unset] [])) t → Steps p.tables e below (s₁.setTop (entryFrame m #[(.long q0)] 14)) t := by
   intro t kt
   refine G25 _ ?_
   refine XS.iload X2.here hx rfl (hb hby d14_172) rfl ?_
   refine XS.iconst X2.here hx rfl (hb hby d14_174) ?_
   show Steps p.tables e below (T2.setTop (mkF m 175 #[.val (.long q0), .second, .val (.long zz), .second, .val (.long ad), .second, .val (.long yy), .second, .val (.long j16), .second, iv dq, iv mm, .unset, .unset] [(.int (3 : Int32)), (.int mm)])) _
   refine XS.iadd X2.here hx rfl (hb hby d14_175) rfl ?_
   refine XS.istore X2.here hx rfl (hb hby d14_176) rfl (l' := #[.val (.long q0), .second, .val (.long zz), .second, .val (.long ad), .second, .val (.long yy), .second, .val (.long j16), .second, iv dq, iv mm, iv (mm + (3 : Int32)), .unset]) rfl ?_
   exact kt
  obtain ⟨j27, hj27⟩ : ∃ z : Int32, z = (if (12 : Int32) < (mm + (3 : Int32)) then ((mm + (3 : Int32)) + (-12 : Int32)) else (mm + (3 : Int32))) := ⟨_, rfl⟩
  have G28 : ∀ t, Steps p.tables e below (T2.setTop (mkF m 188 #[.val (.long q0), .second, .val (.long zz), .second, .val (.long ad), .second, .val (.long yy), .second, .val (.long j16), .second, iv dq, iv mm, iv j27, .unset] [])) t → Steps p.tables e below (s₁.setTop (entryFrame m #[(.long q0)] 14)) t := by
   intro t kt
   have G29 : ∀ t, Steps p.tables e below (T2.setTop (mkF m 182 #[.val (.long q0), .second, .val (.long zz), .second, .val (.long ad), .second, .val (.long yy), .second, .val (.long j16), .second, iv dq, iv mm, iv (mm + (3 : Int32)), .unset] [(.int (12 : Int32)), (.int (mm + (3 : Int32)))])) t → Steps p.tables e below (s₁.setTop (entryFrame m #[(.long q0)] 14)) t := by
    intro t kt
    refine G26 _ ?_
    refine XS.iload X2.here hx rfl (hb hby d14_178) rfl ?_
    refine XS.bipush X2.here hx rfl (hb hby d14_180) ?_
    exact kt
   by_cases hc182_30 : (12 : Int32) < (mm + (3 : Int32))
   ·skip
    rw [show j27 = ((mm + (3 : Int32)) + (-12 : Int32)) from by rw [hj27, if_pos hc182_30]] at kt
    refine G29 _ ?_
    refine XS.icmpNo X2.here hx rfl (hb hby d14_182) rfl (tlt hc182_30).2.2.2 ?_
    refine XS.iinc X2.here hx rfl (hb hby d14_185) rfl (l' := #[.val (.long q0), .second, .val (.long zz), .second, .val (.long ad), .second, .val (.long yy), .second, .val (.long j16), .second, iv dq, iv mm, iv ((mm + (3 : Int32)) + (-12 : Int32)), .unset]) rfl ?_
    exact kt
   ·skip
    rw [show j27 = (mm + (3 : Int32)) from by rw [hj27, if_neg hc182_30]] at kt
    refine G29 _ ?_
    refine XS.icmpYes X2.here hx rfl (pc0 := 182) (pc' := 188) rfl (hb hby d14_182) rfl (flt hc182_30).2.2.2 (by decide) (by decide) ?_
    exact kt
  have G31 : ∀ t, Steps p.tables e below (T2.setTop (mkF m 206 #[.val (.long q0), .second, .val (.long zz), .second, .val (.long ad), .second, .val (.long yy), .second, .val (.long j16), .second, iv dq, iv mm, iv j27, iv ((dq - (((mm * (306 : Int32)) + (5 : Int32)) / (10 : Int32))) + (1 : Int32))] [])) t → Steps p.tables e below (s₁.setTop (entryFrame m #[(.long q0)] 14)) t := by
   intro t kt
   refine G28 _ ?_
   refine XS.iload X2.here hx rfl (hb hby d14_188) rfl ?_
   refine XS.iload X2.here hx rfl (hb hby d14_190) rfl ?_
   refine XS.sipush X2.here hx rfl (hb hby d14_192) ?_
   refine XS.imul X2.here hx rfl (hb hby d14_195) rfl ?_
   refine XS.iconst X2.here hx rfl (hb hby d14_196) ?_
   refine XS.iadd X2.here hx rfl (hb hby d14_197) rfl ?_
   refine XS.bipush X2.here hx rfl (hb hby d14_198) ?_
   refine XS.idiv X2.here hx rfl (hb hby d14_200) rfl (by decide) ?_
   refine XS.isub X2.here hx rfl (hb hby d14_201) rfl ?_
   refine XS.iconst X2.here hx rfl (hb hby d14_202) ?_
   refine XS.iadd X2.here hx rfl (hb hby d14_203) rfl ?_
   refine XS.istore X2.here hx rfl (hb hby d14_204) rfl (l' := #[.val (.long q0), .second, .val (.long zz), .second, .val (.long ad), .second, .val (.long yy), .second, .val (.long j16), .second, iv dq, iv mm, iv j27, iv ((dq - (((mm * (306 : Int32)) + (5 : Int32)) / (10 : Int32))) + (1 : Int32))]) rfl ?_
   exact kt
  obtain ⟨dm, hdm⟩ : ∃ z : Int32, z = ((dq - (((mm * (306 : Int32)) + (5 : Int32)) / (10 : Int32))) + (1 : Int32)) := ⟨_, rfl⟩
  have G32 : ∀ t, Steps p.tables e below (T2.setTop (mkF m 206 #[.val (.long q0), .second, .val (.long zz), .second, .val (.long ad), .second, .val (.long yy), .second, .val (.long j16), .second, iv dq, iv mm, iv j27, iv dm] [])) t → Steps p.tables e below (s₁.setTop (entryFrame m #[(.long q0)] 14)) t := by
   intro t kt
   rw [hdm] at kt
   exact G31 t kt
  obtain ⟨j33, hj33⟩ : ∃ z : Int64, z = (if dq < (306 : Int32) then yy else (yy + (1 : Int64))) := ⟨_, rfl⟩
  have G34 : ∀ t, Steps p.tables e below (T2.setTop (mkF m 220 #[.val (.long q0), .second, .val (.long zz), .second, .val (.long ad), .second, .val (.long j33), .second, .val (.long j16), .second, iv dq, iv mm, iv j27, iv dm] [])) t → Steps p.tables e below (s₁.setTop (entryFrame m #[(.long q0)] 14)) t := by
   intro t kt
   have G35 : ∀ t, Steps p.tables e below (T2.setTop (mkF m 211 #[.val (.long q0), .second, .val (.long zz), .second, .val (.long ad), .second, .val (.long yy), .second, .val (.long j16), .second, iv dq, iv mm, iv j27, iv dm] [(.int (306 : Int32)), (.int dq)])) t → Steps p.tables e below (s₁.setTop (entryFrame m #[(.long q0)] 14)) t := by
    intro t kt
    refine G32 _ ?_
    refine XS.iload X2.here hx rfl (hb hby d14_206) rfl ?_
    refine XS.sipush X2.here hx rfl (hb hby d14_208) ?_
    exact kt
   by_cases hc211_36 : dq < (306 : Int32)
   ·skip
    rw [show j33 = yy from by rw [hj33, if_pos hc211_36]] at kt
    refine G35 _ ?_
    refine XS.icmpYes X2.here hx rfl (pc0 := 211) (pc' := 220) rfl (hb hby d14_211) rfl (tlt hc211_36).1 (by decide) (by decide) ?_
    exact kt
   ·skip
    rw [show j33 = (yy + (1 : Int64)) from by rw [hj33, if_neg hc211_36]] at kt
    refine G35 _ ?_
    refine XS.icmpNo X2.here hx rfl (hb hby d14_211) rfl (flt hc211_36).1 ?_
    refine XS.lload X2.here hx rfl (hb hby d14_214) rfl ?_
    refine XS.lconst X2.here hx rfl (hb hby d14_216) ?_
    refine XS.ladd X2.here hx rfl (hb hby d14_217) rfl ?_
    refine XS.lstore X2.here hx rfl (hb hby d14_218) rfl (l' := #[.val (.long q0), .second, .val (.long zz), .second, .val (.long ad), .second, .val (.long (yy + (1 : Int64))), .second, .val (.long j16), .second, iv dq, iv mm, iv j27, iv dm]) rfl ?_
    exact kt
  have FI := own_ofd q0 zo zz ad j15 j16 yy j33 dq mm j27 dm cq hz' hq0 OC YD hyy hdq hmm hj27 hdm hj33
  obtain ⟨T37, h37, X37, e37, E37, A37, D37, -, st37⟩ := newO X2 hx hZ hown (hq hw 153 rfl) (hq hw 154 rfl) (hq hw 104 rfl) eh2 (g := (mkF m 220 #[.val (.long q0), .second, .val (.long zz), .second, .val (.long ad), .second, .val (.long j33), .second, .val (.long j16), .second, iv dq, iv mm, iv j27, iv dm] [])) rfl (hb hby d14_220) (by decide) (by decide)
  obtain ⟨b37, g37⟩ : ∃ z, z = h0.size := ⟨_, rfl⟩
  rw [← g37] at A37 D37 st37
  have g_b37 : n0 ≤ b37 := Nat.le_trans Z0 (Nat.le_of_eq g37.symm)
  have sz_b37 : h0.size ≤ b37 := Nat.le_trans kp0.1 (Nat.le_of_eq g37.symm)
  have fa38 := O0.ext E37
  have z39 : n0 ≤ h37.size := Nat.le_trans Z0 E37.1
  have kp40 : Keep h0 h37 [] := kp0.ext E37
  have fa41 : Fld Z h37 b37 "java/time/LocalDate" "year" "I" (.int (0 : Int32)) := D37 (Or.inr (hq hw 161 rfl)) (ty := .int) (by decide)
  have fa42 : Fld Z h37 b37 "java/time/LocalDate" "month" "S" (.int (0 : Int32)) := D37 (Or.inr (hq hw 163 rfl)) (ty := .short) (by decide)
  have fa43 : Fld Z h37 b37 "java/time/LocalDate" "day" "S" (.int (0 : Int32)) := D37 (Or.inr (hq hw 165 rfl)) (ty := .short) (by decide)
  obtain ⟨_, _, ⟨T44, L44, k44, n44⟩, -, X44, ⟨Lc44, hQ44, l44, y44, z44⟩, st44⟩ := X37.specialBack hx (y := (⟨"java/time/LocalDate", "<init>", "(III)V"⟩ : MethodName)) rfl hown (mvT hZ (hq hw 155 rfl)) (mvT hZ (hq hw 156 rfl)) (mvT hZ (hq hw 158 rfl)) (by decide) (backOf (W := 1) (rm21 l Z a0 hw [] b37 (j33.toInt32) j27 dm  h37 n0 z39 A37 fa41 fa42 fa43 g_b37 FI.1) hZ (hq hw 158 rfl) (hq hw 104 rfl) (by decide) (by decide)) (g := (mkF m 231 #[.val (.long q0), .second, .val (.long zz), .second, .val (.long ad), .second, .val (.long j33), .second, .val (.long j16), .second, iv dq, iv mm, iv j27, iv dm] [(.int dm), (.int j27), (.int (j33.toInt32)), (.ref b37), (.ref b37)])) rfl (by rw [hml]; rfl) (Steps.refl _) (a := b37) (argsL := [(.int (j33.toInt32)), (.int j27), (.int dm)]) (rest := [(.ref b37)]) (lenOf pd_5 rfl) rfl (by show 2 * 0 + _ ≤ _; exact Nat.le_of_eq rfl) (hb hby d14_231) (fun _ _ => ⟨rfl, e37, (by decide : 1 + 0 ≤ _), (by decide : 3 + 0 ≤ _)⟩)
  dsimp only [Pt.U, Pt.locs, Pt.cells, Pt.slots] at X44 l44 y44 z44 st44 hQ44
  subst l44 y44 z44
  obtain ⟨rfl, N44q, K44, A44, F44_0, F44_1, F44_2⟩ := hQ44
  have N44 := Fr.app N2 N44q
  have fa45 := fa38.keep K44 (allS g_b37 all0)
  have fa46 := A37.keep K44
  have z47 : n0 ≤ T44.heap.size := Nat.le_trans z39 K44.1
  have kp48 : Keep h0 T44.heap [] := kp40.trans K44 (allS (Or.inr sz_b37) all0)
  obtain ⟨fs, hr, hrun, hended, hW, hsame⟩ := X44.leave (v := some (.ref b37)) (fun h => by rw [Bd.returns] at h; cases h)
  refine ⟨_, _, G34 _ ?_, hrun, hended, _, _, rfl, ?_, ⟨_, rfl⟩, hW, hsame.mono (by decide) (by decide)⟩
  ·skip
   refine st37 _ ?_
   refine XS.dup X37.here hx rfl (hb hby d14_223) rfl rfl ?_
   refine XS.lload X37.here hx rfl (hb hby d14_224) rfl ?_
   refine XS.l2i X37.here hx rfl (hb hby d14_226) rfl ?_
   refine XS.iload X37.here hx rfl (hb hby d14_227) rfl ?_
   refine XS.iload X37.here hx rfl (hb hby d14_229) rfl ?_
   show Steps p.tables e below (T37.setTop (mkF m 231 #[.val (.long q0), .second, .val (.long zz), .second, .val (.long ad), .second, .val (.long j33), .second, .val (.long j16), .second, iv dq, iv mm, iv j27, iv dm] [(.int dm), (.int j27), (.int (j33.toInt32)), (.ref b37), (.ref b37)])) _
   refine st44.trans ?_
   exact retOut X44 hx Bd.returns rfl (Or.inr (Or.inr (Or.inr (Or.inr ⟨rfl, rfl, rfl⟩)))) (hb hby d14_234) hr
  ·show Q14 Z q0 eN eA eC ps crr ads sw oe efd rfd eyr ryr bt bf ic ksw h0 n0 _ T44.heap _
   exact ⟨b37, _, _, _, rfl, N44, kp48, fa46, F44_0, F44_1, F44_2, FI⟩
 ·skip
  have G49 : ∀ t, Steps p.tables e below (T2.setTop (mkF m 58 #[.val (.long q0), .second, .val (.long zo), .second, .val (.long (0 : Int64)), .second, .unset, .unset, .unset, .unset, .unset, .unset, .unset, .unset] [])) t → Steps p.tables e below (s₁.setTop (entryFrame m #[(.long q0)] 14)) t := by
   intro t kt
   refine G5 _ ?_
   refine XS.ifYes X2.here hx rfl (pc0 := 26) (pc' := 58) rfl (hb hby d14_26) rfl ((if0 _ _).trans (flt (fun q => hc26_6 ((lw_lt _ _).mp q))).2.1) (by decide) (by decide) ?_
   exact kt
  obtain ⟨zz, hzz⟩ : ∃ z : Int64, z = zo := ⟨_, rfl⟩
  obtain ⟨ad, had⟩ : ∃ z : Int64, z = (0 : Int64) := ⟨_, rfl⟩
  have G50 : ∀ t, Steps p.tables e below (T2.setTop (mkF m 58 #[.val (.long q0), .second, .val (.long zz), .second, .val (.long ad), .second, .unset, .unset, .unset, .unset, .unset, .unset, .unset, .unset] [])) t → Steps p.tables e below (s₁.setTop (entryFrame m #[(.long q0)] 14)) t := by
   intro t kt
   rw [hzz, had] at kt
   exact G49 t kt
  obtain ⟨cq, OC⟩ : ∃ cq : Int, own_Oc zo zz ad cq := ⟨0, by rw [hzz, had]; exact own_o1 zo hc26_6 (by omega)⟩
  have bz : 0 ≤ zz.toInt ∧ zz.toInt ≤ 8600000000 := ⟨OC.2.2.1, OC.2.2.2.1⟩
  have G51 : ∀ t, Steps p.tables e below (T2.setTop (mkF m 73 #[.val (.long q0), .second, .val (.long zz), .second, .val (.long ad), .second, .val (.long ((((400 : Int64) * zz) + (591 : Int64)) / (146097 : Int64))), .second, .unset, .unset, .unset, .unset, .unset, .unset] [])) t → Steps p.tables e below (s₁.setTop (entryFrame m #[(.long q0)] 14)) t := by
   intro t kt
   refine G50 _ ?_
   refine X2.ldc2Long hx hown (mvT hZ (hq hw 147 rfl)) (g := (mkF m 58 #[.val (.long q0), .second, .val (.long zz), .second, .val (.long ad), .second, .unset, .unset, .unset, .unset, .unset, .unset, .unset, .unset] [])) rfl (hb hby d14_58) _ ?_
   refine XS.lloadN X2.here hx rfl (hb hby d14_61) rfl ?_
   show Steps p.tables e below (T2.setTop (mkF m 62 #[.val (.long q0), .second, .val (.long zz), .second, .val (.long ad), .second, .unset, .unset, .unset, .unset, .unset, .unset, .unset, .unset] [(.long zz), (.long (400 : Int64))])) _
   refine XS.lmul X2.here hx rfl (hb hby d14_62) rfl ?_
   refine X2.ldc2Long hx hown (mvT hZ (hq hw 148 rfl)) (g := (mkF m 63 #[.val (.long q0), .second, .val (.long zz), .second, .val (.long ad), .second, .unset, .unset, .unset, .unset, .unset, .unset, .unset, .unset] [(.long ((400 : Int64) * zz))])) rfl (hb hby d14_63) _ ?_
   refine XS.ladd X2.here hx rfl (hb hby d14_66) rfl ?_
   refine X2.ldc2Long hx hown (mvT hZ (hq hw 149 rfl)) (g := (mkF m 67 #[.val (.long q0), .second, .val (.long zz), .second, .val (.long ad), .second, .unset, .unset, .unset, .unset, .unset, .unset, .unset, .unset] [(.long (((400 : Int64) * zz) + (591 : Int64)))])) rfl (hb hby d14_67) _ ?_
   refine XS.ldiv X2.here hx rfl (hb hby d14_70) rfl (by decide) ?_
   refine XS.lstore X2.here hx rfl (hb hby d14_71) rfl (l' := #[.val (.long q0), .second, .val (.long zz), .second, .val (.long ad), .second, .val (.long ((((400 : Int64) * zz) + (591 : Int64)) / (146097 : Int64))), .second, .unset, .unset, .unset, .unset, .unset, .unset]) rfl ?_
   exact kt
  obtain ⟨ye, hye⟩ : ∃ z : Int64, z = ((((400 : Int64) * zz) + (591 : Int64)) / (146097 : Int64)) := ⟨_, rfl⟩
  have G52 : ∀ t, Steps p.tables e below (T2.setTop (mkF m 73 #[.val (.long q0), .second, .val (.long zz), .second, .val (.long ad), .second, .val (.long ye), .second, .unset, .unset, .unset, .unset, .unset, .unset] [])) t → Steps p.tables e below (s₁.setTop (entryFrame m #[(.long q0)] 14)) t := by
   intro t kt
   rw [hye] at kt
   exact G51 t kt
  have G53 : ∀ t, Steps p.tables e below (T2.setTop (mkF m 104 #[.val (.long q0), .second, .val (.long zz), .second, .val (.long ad), .second, .val (.long ye), .second, .val (.long (zz - (((((365 : Int64) * ye) + (ye / (4 : Int64))) - (ye / (100 : Int64))) + (ye / (400 : Int64))))), .second, .unset, .unset, .unset, .unset] [])) t → Steps p.tables e below (s₁.setTop (entryFrame m #[(.long q0)] 14)) t := by
   intro t kt
   refine G52 _ ?_
   refine XS.lloadN X2.here hx rfl (hb hby d14_73) rfl ?_
   refine X2.ldc2Long hx hown (mvT hZ (hq hw 150 rfl)) (g := (mkF m 74 #[.val (.long q0), .second, .val (.long zz), .second, .val (.long ad), .second, .val (.long ye), .second, .unset, .unset, .unset, .unset, .unset, .unset] [(.long zz)])) rfl (hb hby d14_74) _ ?_
   refine XS.lload X2.here hx rfl (hb hby d14_77) rfl ?_
   refine XS.lmul X2.here hx rfl (hb hby d14_79) rfl ?_
   refine XS.lload X2.here hx rfl (hb hby d14_80) rfl ?_
   refine X2.ldc2Long hx hown (mvT hZ (hq hw 151 rfl)) (g := (mkF m 82 #[.val (.long q0), .second, .val (.long zz), .second, .val (.long ad), .second, .val (.long ye), .second, .unset, .unset, .unset, .unset, .unset, .unset] [(.long ye), (.long ((365 : Int64) * ye)), (.long zz)])) rfl (hb hby d14_82) _ ?_
   refine XS.ldiv X2.here hx rfl (hb hby d14_85) rfl (by decide) ?_
   refine XS.ladd X2.here hx rfl (hb hby d14_86) rfl ?_
   refine XS.lload X2.here hx rfl (hb hby d14_87) rfl ?_
   refine X2.ldc2Long hx hown (mvT hZ (hq hw 152 rfl)) (g := (mkF m 89 #[.val (.long q0), .second, .val (.long zz), .second, .val (.long ad), .second, .val (.long ye), .second, .unset, .unset, .unset, .unset, .unset, .unset] [(.long ye), (.long (((365 : Int64) * ye) + (ye / (4 : Int64)))), (.long zz)])) rfl (hb hby d14_89) _ ?_
   refine XS.ldiv X2.here hx rfl (hb hby d14_92) rfl (by decide) ?_
   refine XS.lsub X2.here hx rfl (hb hby d14_93) rfl ?_
   refine XS.lload X2.here hx rfl (hb hby d14_94) rfl ?_
   refine X2.ldc2Long hx hown (mvT hZ (hq hw 147 rfl)) (g := (mkF m 96 #[.val (.long q0), .second, .val (.long zz), .second, .val (.long ad), .second, .val (.long ye), .second, .unset, .unset, .unset, .unset, .unset, .unset] [(.long ye), (.long ((((365 : Int64) * ye) + (ye / (4 : Int64))) - (ye / (100 : Int64)))), (.long zz)])) rfl (hb hby d14_96) _ ?_
   show Steps p.tables e below (T2.setTop (mkF m 99 #[.val (.long q0), .second, .val (.long zz), .second, .val (.long ad), .second, .val (.long ye), .second, .unset, .unset, .unset, .unset, .unset, .unset] [(.long (400 : Int64)), (.long ye), (.long ((((365 : Int64) * ye) + (ye / (4 : Int64))) - (ye / (100 : Int64)))), (.long zz)])) _
   refine XS.ldiv X2.here hx rfl (hb hby d14_99) rfl (by decide) ?_
   refine XS.ladd X2.here hx rfl (hb hby d14_100) rfl ?_
   refine XS.lsub X2.here hx rfl (hb hby d14_101) rfl ?_
   refine XS.lstore X2.here hx rfl (hb hby d14_102) rfl (l' := #[.val (.long q0), .second, .val (.long zz), .second, .val (.long ad), .second, .val (.long ye), .second, .val (.long (zz - (((((365 : Int64) * ye) + (ye / (4 : Int64))) - (ye / (100 : Int64))) + (ye / (400 : Int64))))), .second, .unset, .unset, .unset, .unset]) rfl ?_
   exact kt
  obtain ⟨dy, hdy⟩ : ∃ z : Int64, z = (zz - (((((365 : Int64) * ye) + (ye / (4 : Int64))) - (ye / (100 : Int64))) + (ye / (400 : Int64)))) := ⟨_, rfl⟩
  have G54 : ∀ t, Steps p.tables e below (T2.setTop (mkF m 104 #[.val (.long q0), .second, .val (.long zz), .second, .val (.long ad), .second, .val (.long ye), .second, .val (.long dy), .second, .unset, .unset, .unset, .unset] [])) t → Steps p.tables e below (s₁.setTop (entryFrame m #[(.long q0)] 14)) t := by
   intro t kt
   rw [hdy] at kt
   exact G53 t kt
  have hdy' : dy = own_fx zz ye := hdy
  obtain ⟨j55, hj55⟩ : ∃ z : Int64, z = (if dy < (0 : Int64) then (ye - (1 : Int64)) else ye) := ⟨_, rfl⟩
  obtain ⟨j56, hj56⟩ : ∃ z : Int64, z = (if dy < (0 : Int64) then (zz - (((((365 : Int64) * (ye - (1 : Int64))) + ((ye - (1 : Int64)) / (4 : Int64))) - ((ye - (1 : Int64)) / (100 : Int64))) + ((ye - (1 : Int64)) / (400 : Int64)))) else dy) := ⟨_, rfl⟩
  have G57 : ∀ t, Steps p.tables e below (T2.setTop (mkF m 148 #[.val (.long q0), .second, .val (.long zz), .second, .val (.long ad), .second, .val (.long j55), .second, .val (.long j56), .second, .unset, .unset, .unset, .unset] [])) t → Steps p.tables e below (s₁.setTop (entryFrame m #[(.long q0)] 14)) t := by
   intro t kt
   have G58 : ∀ t, Steps p.tables e below (T2.setTop (mkF m 108 #[.val (.long q0), .second, .val (.long zz), .second, .val (.long ad), .second, .val (.long ye), .second, .val (.long dy), .second, .unset, .unset, .unset, .unset] [(.int (lcmpW dy (0 : Int64)))])) t → Steps p.tables e below (s₁.setTop (entryFrame m #[(.long q0)] 14)) t := by
    intro t kt
    refine G54 _ ?_
    refine XS.lload X2.here hx rfl (hb hby d14_104) rfl ?_
    refine XS.lconst X2.here hx rfl (hb hby d14_106) ?_
    refine XS.lcmp X2.here hx rfl (hb hby d14_107) rfl ?_
    exact kt
   by_cases hc108_59 : dy < (0 : Int64)
   ·skip
    rw [show j55 = (ye - (1 : Int64)) from by rw [hj55, if_pos hc108_59]] at kt
    rw [show j56 = (zz - (((((365 : Int64) * (ye - (1 : Int64))) + ((ye - (1 : Int64)) / (4 : Int64))) - ((ye - (1 : Int64)) / (100 : Int64))) + ((ye - (1 : Int64)) / (400 : Int64)))) from by rw [hj56, if_pos hc108_59]] at kt
    refine G58 _ ?_
    refine XS.ifNo X2.here hx rfl (hb hby d14_108) rfl ((if0 _ _).trans (tlt ((lw_lt _ _).mpr hc108_59)).2.1) ?_
    refine XS.lload X2.here hx rfl (hb hby d14_111) rfl ?_
    refine XS.lconst X2.here hx rfl (hb hby d14_113) ?_
    refine XS.lsub X2.here hx rfl (hb hby d14_114) rfl ?_
    refine XS.lstore X2.here hx rfl (hb hby d14_115) rfl (l' := #[.val (.long q0), .second, .val (.long zz), .second, .val (.long ad), .second, .val (.long (ye - (1 : Int64))), .second, .val (.long dy), .second, .unset, .unset, .unset, .unset]) rfl ?_
    refine XS.lloadN X2.here hx rfl (hb hby d14_117) rfl ?_
    refine X2.ldc2Long hx hown (mvT hZ (hq hw 150 rfl)) (g := (mkF m 118 #[.val (.long q0), .second, .val (.long zz), .second, .val (.long ad), .second, .val (.long (ye - (1 : Int64))), .second, .val (.long dy), .second, .unset, .unset, .unset, .unset] [(.long zz)])) rfl (hb hby d14_118) _ ?_
    refine XS.lload X2.here hx rfl (hb hby d14_121) rfl ?_
    refine XS.lmul X2.here hx rfl (hb hby d14_123) rfl ?_
    refine XS.lload X2.here hx rfl (hb hby d14_124) rfl ?_
    refine X2.ldc2Long hx hown (mvT hZ (hq hw 151 rfl)) (g := (mkF m 126 #[.val (.long q0), .second, .val (.long zz), .second, .val (.long ad), .second, .val (.long (ye - (1 : Int64))), .second, .val (.long dy), .second, .unset, .unset, .unset, .unset] [(.long (ye - (1 : Int64))), (.long ((365 : Int64) * (ye - (1 : Int64)))), (.long zz)])) rfl (hb hby d14_126) _ ?_
    refine XS.ldiv X2.here hx rfl (hb hby d14_129) rfl (by decide) ?_
    refine XS.ladd X2.here hx rfl (hb hby d14_130) rfl ?_
    refine XS.lload X2.here hx rfl (hb hby d14_131) rfl ?_
    show Steps p.tables e below (T2.setTop (mkF m 133 #[.val (.long q0), .second, .val (.long zz), .second, .val (.long ad), .second, .val (.long (ye - (1 : Int64))), .second, .val (.long dy), .second, .unset, .unset, .unset, .unset] [(.long (ye - (1 : Int64))), (.long (((365 : Int64) * (ye - (1 : Int64))) + ((ye - (1 : Int64)) / (4 : Int64)))), (.long zz)])) _
    refine X2.ldc2Long hx hown (mvT hZ (hq hw 152 rfl)) (g := (mkF m 133 #[.val (.long q0), .second, .val (.long zz), .second, .val (.long ad), .second, .val (.long (ye - (1 : Int64))), .second, .val (.long dy), .second, .unset, .unset, .unset, .unset] [(.long (ye - (1 : Int64))), (.long (((365 : Int64) * (ye - (1 : Int64))) + ((ye - (1 : Int64)) / (4 : Int64)))), (.long zz)])) rfl (hb hby d14_133) _ ?_
    refine XS.ldiv X2.here hx rfl (hb hby d14_136) rfl (by decide) ?_
    refine XS.lsub X2.here hx rfl (hb hby d14_137) rfl ?_
    refine XS.lload X2.here hx rfl (hb hby d14_138) rfl ?_
    refine X2.ldc2Long hx hown (mvT hZ (hq hw 147 rfl)) (g := (mkF m 140 #[.val (.long q0), .second, .val (.long zz), .second, .val (.long ad), .second, .val (.long (ye - (1 : Int64))), .second, .val (.long dy), .second, .unset, .unset, .unset, .unset] [(.long (ye - (1 : Int64))), (.long ((((365 : Int64) * (ye - (1 : Int64))) + ((ye - (1 : Int64)) / (4 : Int64))) - ((ye - (1 : Int64)) / (100 : Int64)))), (.long zz)])) rfl (hb hby d14_140) _ ?_
    refine XS.ldiv X2.here hx rfl (hb hby d14_143) rfl (by decide) ?_
    refine XS.ladd X2.here hx rfl (hb hby d14_144) rfl ?_
    refine XS.lsub X2.here hx rfl (hb hby d14_145) rfl ?_
    refine XS.lstore X2.here hx rfl (hb hby d14_146) rfl (l' := #[.val (.long q0), .second, .val (.long zz), .second, .val (.long ad), .second, .val (.long (ye - (1 : Int64))), .second, .val (.long (zz - (((((365 : Int64) * (ye - (1 : Int64))) + ((ye - (1 : Int64)) / (4 : Int64))) - ((ye - (1 : Int64)) / (100 : Int64))) + ((ye - (1 : Int64)) / (400 : Int64))))), .second, .unset, .unset, .unset, .unset]) rfl ?_
    exact kt
   ·skip
    rw [show j55 = ye from by rw [hj55, if_neg hc108_59]] at kt
    rw [show j56 = dy from by rw [hj56, if_neg hc108_59]] at kt
    refine G58 _ ?_
    refine XS.ifYes X2.here hx rfl (pc0 := 108) (pc' := 148) rfl (hb hby d14_108) rfl ((if0 _ _).trans (flt (fun q => hc108_59 ((lw_lt _ _).mp q))).2.1) (by decide) (by decide) ?_
    exact kt
  have YD : own_Yd zz j55 j56 := by
   by_cases hq : dy < (0 : Int64)
   ·rw [hj55, hj56, if_pos hq, if_pos hq]; exact own_o5 zz ye dy bz hye hdy' hq
   ·rw [hj55, hj56, if_neg hq, if_neg hq]; exact own_o4 zz ye dy bz hye hdy' hq
  have G60 : ∀ t, Steps p.tables e below (T2.setTop (mkF m 155 #[.val (.long q0), .second, .val (.long zz), .second, .val (.long ad), .second, .val (.long (j55 + ad)), .second, .val (.long j56), .second, .unset, .unset, .unset, .unset] [])) t → Steps p.tables e below (s₁.setTop (entryFrame m #[(.long q0)] 14)) t := by
   intro t kt
   refine G57 _ ?_
   refine XS.lload X2.here hx rfl (hb hby d14_148) rfl ?_
   refine XS.lload X2.here hx rfl (hb hby d14_150) rfl ?_
   refine XS.ladd X2.here hx rfl (hb hby d14_152) rfl ?_
   refine XS.lstore X2.here hx rfl (hb hby d14_153) rfl (l' := #[.val (.long q0), .second, .val (.long zz), .second, .val (.long ad), .second, .val (.long (j55 + ad)), .second, .val (.long j56), .second, .unset, .unset, .unset, .unset]) rfl ?_
   exact kt
  obtain ⟨yy, hyy⟩ : ∃ z : Int64, z = (j55 + ad) := ⟨_, rfl⟩
  have G61 : ∀ t, Steps p.tables e below (T2.setTop (mkF m 155 #[.val (.long q0), .second, .val (.long zz), .second, .val (.long ad), .second, .val (.long yy), .second, .val (.long j56), .second, .unset, .unset, .unset, .unset] [])) t → Steps p.tables e below (s₁.setTop (entryFrame m #[(.long q0)] 14)) t := by
   intro t kt
   rw [hyy] at kt
   exact G60 t kt
  have G62 : ∀ t, Steps p.tables e below (T2.setTop (mkF m 160 #[.val (.long q0), .second, .val (.long zz), .second, .val (.long ad), .second, .val (.long yy), .second, .val (.long j56), .second, iv (j56.toInt32), .unset, .unset, .unset] [])) t → Steps p.tables e below (s₁.setTop (entryFrame m #[(.long q0)] 14)) t := by
   intro t kt
   refine G61 _ ?_
   refine XS.lload X2.here hx rfl (hb hby d14_155) rfl ?_
   refine XS.l2i X2.here hx rfl (hb hby d14_157) rfl ?_
   refine XS.istore X2.here hx rfl (hb hby d14_158) rfl (l' := #[.val (.long q0), .second, .val (.long zz), .second, .val (.long ad), .second, .val (.long yy), .second, .val (.long j56), .second, iv (j56.toInt32), .unset, .unset, .unset]) rfl ?_
   exact kt
  obtain ⟨dq, hdq⟩ : ∃ z : Int32, z = (j56.toInt32) := ⟨_, rfl⟩
  have G63 : ∀ t, Steps p.tables e below (T2.setTop (mkF m 160 #[.val (.long q0), .second, .val (.long zz), .second, .val (.long ad), .second, .val (.long yy), .second, .val (.long j56), .second, iv dq, .unset, .unset, .unset] [])) t → Steps p.tables e below (s₁.setTop (entryFrame m #[(.long q0)] 14)) t := by
   intro t kt
   rw [hdq] at kt
   exact G62 t kt
  have G64 : ∀ t, Steps p.tables e below (T2.setTop (mkF m 172 #[.val (.long q0), .second, .val (.long zz), .second, .val (.long ad), .second, .val (.long yy), .second, .val (.long j56), .second, iv dq, iv (((dq * (5 : Int32)) + (2 : Int32)) / (153 : Int32)), .unset, .unset] [])) t → Steps p.tables e below (s₁.setTop (entryFrame m #[(.long q0)] 14)) t := by
   intro t kt
   refine G63 _ ?_
   refine XS.iload X2.here hx rfl (hb hby d14_160) rfl ?_
   refine XS.iconst X2.here hx rfl (hb hby d14_162) ?_
   refine XS.imul X2.here hx rfl (hb hby d14_163) rfl ?_
   refine XS.iconst X2.here hx rfl (hb hby d14_164) ?_
   refine XS.iadd X2.here hx rfl (hb hby d14_165) rfl ?_
   refine XS.sipush X2.here hx rfl (hb hby d14_166) ?_
   refine XS.idiv X2.here hx rfl (hb hby d14_169) rfl (by decide) ?_
   refine XS.istore X2.here hx rfl (hb hby d14_170) rfl (l' := #[.val (.long q0), .second, .val (.long zz), .second, .val (.long ad), .second, .val (.long yy), .second, .val (.long j56), .second, iv dq, iv (((dq * (5 : Int32)) + (2 : Int32)) / (153 : Int32)), .unset, .unset]) rfl ?_
   exact kt
  obtain ⟨mm, hmm⟩ : ∃ z : Int32, z = (((dq * (5 : Int32)) + (2 : Int32)) / (153 : Int32)) := ⟨_, rfl⟩
  have G65 : ∀ t, Steps p.tables e below (T2.setTop (mkF m 172 #[.val (.long q0), .second, .val (.long zz), .second, .val (.long ad), .second, .val (.long yy), .second, .val (.long j56), .second, iv dq, iv mm, .unset, .unset] [])) t → Steps p.tables e below (s₁.setTop (entryFrame m #[(.long q0)] 14)) t := by
   intro t kt
   rw [hmm] at kt
   exact G64 t kt
  have G66 : ∀ t, Steps p.tables e below (T2.setTop (mkF m 178 #[.val (.long q0), .second, .val (.long zz), .second, .val (.long ad), .second, .val (.long yy), .second, .val (.long j56), .second, iv dq, iv mm, iv (mm + (3 : Int32)), .unset] [])) t → Steps p.tables e below (s₁.setTop (entryFrame m #[(.long q0)] 14)) t := by
   intro t kt
   refine G65 _ ?_
   refine XS.iload X2.here hx rfl (hb hby d14_172) rfl ?_
   show Steps p.tables e below (T2.setTop (mkF m 174 #[.val (.long q0), .second, .val (.long zz), .second, .val (.long ad), .second, .val (.long yy), .second, .val (.long j56), .second, iv dq, iv mm, .unset, .unset] [(.int mm)])) _
   refine XS.iconst X2.here hx rfl (hb hby d14_174) ?_
   refine XS.iadd X2.here hx rfl (hb hby d14_175) rfl ?_
   refine XS.istore X2.here hx rfl (hb hby d14_176) rfl (l' := #[.val (.long q0), .second, .val (.long zz), .second, .val (.long ad), .second, .val (.long yy), .second, .val (.long j56), .second, iv dq, iv mm, iv (mm + (3 : Int32)), .unset]) rfl ?_
   exact kt
  obtain ⟨j67, hj67⟩ : ∃ z : Int32, z = (if (12 : Int32) < (mm + (3 : Int32)) then ((mm + (3 : Int32)) + (-12 : Int32)) else (mm + (3 : Int32))) := ⟨_, rfl⟩
  have G68 : ∀ t, Steps p.tables e below (T2.setTop (mkF m 188 #[.val (.long q0), .second, .val (.long zz), .second, .val (.long ad), .second, .val (.long yy), .second, .val (.long j56), .second, iv dq, iv mm, iv j67, .unset] [])) t → Steps p.tables e below (s₁.setTop (entryFrame m #[(.long q0)] 14)) t := by
   intro t kt
   have G69 : ∀ t, Steps p.tables e below (T2.setTop (mkF m 182 #[.val (.long q0), .second, .val (.long zz), .second, .val (.long ad), .second, .val (.long yy), .second, .val (.long j56), .second, iv dq, iv mm, iv (mm + (3 : Int32)), .unset] [(.int (12 : Int32)), (.int (mm + (3 : Int32)))])) t → Steps p.tables e below (s₁.setTop (entryFrame m #[(.long q0)] 14)) t := by
    intro t kt
    refine G66 _ ?_
    refine XS.iload X2.here hx rfl (hb hby d14_178) rfl ?_
    refine XS.bipush X2.here hx rfl (hb hby d14_180) ?_
    exact kt
   by_cases hc182_70 : (12 : Int32) < (mm + (3 : Int32))
   ·skip
    rw [show j67 = ((mm + (3 : Int32)) + (-12 : Int32)) from by rw [hj67, if_pos hc182_70]] at kt
    refine G69 _ ?_
    refine XS.icmpNo X2.here hx rfl (hb hby d14_182) rfl (tlt hc182_70).2.2.2 ?_
    refine XS.iinc X2.here hx rfl (hb hby d14_185) rfl (l' := #[.val (.long q0), .second, .val (.long zz), .second, .val (.long ad), .second, .val (.long yy), .second, .val (.long j56), .second, iv dq, iv mm, iv ((mm + (3 : Int32)) + (-12 : Int32)), .unset]) rfl ?_
    exact kt
   ·skip
    rw [show j67 = (mm + (3 : Int32)) from by rw [hj67, if_neg hc182_70]] at kt
    refine G69 _ ?_
    refine XS.icmpYes X2.here hx rfl (pc0 := 182) (pc' := 188) rfl (hb hby d14_182) rfl (flt hc182_70).2.2.2 (by decide) (by decide) ?_
    exact kt
  have G71 : ∀ t, Steps p.tables e below (T2.setTop (mkF m 206 #[.val (.long q0), .second, .val (.long zz), .second, .val (.long ad), .second, .val (.long yy), .second, .val (.long j56), .second, iv dq, iv mm, iv j67, iv ((dq - (((mm * (306 : Int32)) + (5 : Int32)) / (10 : Int32))) + (1 : Int32))] [])) t → Steps p.tables e below (s₁.setTop (entryFrame m #[(.long q0)] 14)) t := by
   intro t kt
   refine G68 _ ?_
   refine XS.iload X2.here hx rfl (hb hby d14_188) rfl ?_
   refine XS.iload X2.here hx rfl (hb hby d14_190) rfl ?_
   refine XS.sipush X2.here hx rfl (hb hby d14_192) ?_
   refine XS.imul X2.here hx rfl (hb hby d14_195) rfl ?_
   refine XS.iconst X2.here hx rfl (hb hby d14_196) ?_
   refine XS.iadd X2.here hx rfl (hb hby d14_197) rfl ?_
   refine XS.bipush X2.here hx rfl (hb hby d14_198) ?_
   refine XS.idiv X2.here hx rfl (hb hby d14_200) rfl (by decide) ?_
   refine XS.isub X2.here hx rfl (hb hby d14_201) rfl ?_
   refine XS.iconst X2.here hx rfl (hb hby d14_202) ?_
   refine XS.iadd X2.here hx rfl (hb hby d14_203) rfl ?_
   refine XS.istore X2.here hx rfl (hb hby d14_204) rfl (l' := #[.val (.long q0), .second, .val (.long zz), .second, .val (.long ad), .second, .val (.long yy), .second, .val (.long j56), .second, iv dq, iv mm, iv j67, iv ((dq - (((mm * (306 : Int32)) + (5 : Int32)) / (10 : Int32))) + (1 : Int32))]) rfl ?_
   exact kt
  obtain ⟨dm, hdm⟩ : ∃ z : Int32, z = ((dq - (((mm * (306 : Int32)) + (5 : Int32)) / (10 : Int32))) + (1 : Int32)) := ⟨_, rfl⟩
  have G72 : ∀ t, Steps p.tables e below (T2.setTop (mkF m 206 #[.val (.long q0), .second, .val (.long zz), .second, .val (.long ad), .second, .val (.long yy), .second, .val (.long j56), .second, iv dq, iv mm, iv j67, iv dm] [])) t → Steps p.tables e below (s₁.setTop (entryFrame m #[(.long q0)] 14)) t := by
   intro t kt
   rw [hdm] at kt
   exact G71 t kt
  obtain ⟨j73, hj73⟩ : ∃ z : Int64, z = (if dq < (306 : Int32) then yy else (yy + (1 : Int64))) := ⟨_, rfl⟩
  have G74 : ∀ t, Steps p.tables e below (T2.setTop (mkF m 220 #[.val (.long q0), .second, .val (.long zz), .second, .val (.long ad), .second, .val (.long j73), .second, .val (.long j56), .second, iv dq, iv mm, iv j67, iv dm] [])) t → Steps p.tables e below (s₁.setTop (entryFrame m #[(.long q0)] 14)) t := by
   intro t kt
   have G75 : ∀ t, Steps p.tables e below (T2.setTop (mkF m 211 #[.val (.long q0), .second, .val (.long zz), .second, .val (.long ad), .second, .val (.long yy), .second, .val (.long j56), .second, iv dq, iv mm, iv j67, iv dm] [(.int (306 : Int32)), (.int dq)])) t → Steps p.tables e below (s₁.setTop (entryFrame m #[(.long q0)] 14)) t := by
    intro t kt
    refine G72 _ ?_
    refine XS.iload X2.here hx rfl (hb hby d14_206) rfl ?_
    refine XS.sipush X2.here hx rfl (hb hby d14_208) ?_
    exact kt
   by_cases hc211_76 : dq < (306 : Int32)
   ·skip
    rw [show j73 = yy from by rw [hj73, if_pos hc211_76]] at kt
    refine G75 _ ?_
    refine XS.icmpYes X2.here hx rfl (pc0 := 211) (pc' := 220) rfl (hb hby d14_211) rfl (tlt hc211_76).1 (by decide) (by decide) ?_
    exact kt
   ·skip
    rw [show j73 = (yy + (1 : Int64)) from by rw [hj73, if_neg hc211_76]] at kt
    refine G75 _ ?_
    refine XS.icmpNo X2.here hx rfl (hb hby d14_211) rfl (flt hc211_76).1 ?_
    refine XS.lload X2.here hx rfl (hb hby d14_214) rfl ?_
    refine XS.lconst X2.here hx rfl (hb hby d14_216) ?_
    refine XS.ladd X2.here hx rfl (hb hby d14_217) rfl ?_
    show Steps p.tables e below (T2.setTop (mkF m 218 #[.val (.long q0), .second, .val (.long zz), .second, .val (.long ad), .second, .val (.long yy), .second, .val (.long j56), .second, iv dq, iv mm, iv j67, iv dm] [(.long (yy + (1 : Int64)))])) _
    refine XS.lstore X2.here hx rfl (hb hby d14_218) rfl (l' := #[.val (.long q0), .second, .val (.long zz), .second, .val (.long ad), .second, .val (.long (yy + (1 : Int64))), .second, .val (.long j56), .second, iv dq, iv mm, iv j67, iv dm]) rfl ?_
    exact kt
  have FI := own_ofd q0 zo zz ad j55 j56 yy j73 dq mm j67 dm cq hz' hq0 OC YD hyy hdq hmm hj67 hdm hj73
  obtain ⟨T77, h77, X77, e77, E77, A77, D77, -, st77⟩ := newO X2 hx hZ hown (hq hw 153 rfl) (hq hw 154 rfl) (hq hw 104 rfl) eh2 (g := (mkF m 220 #[.val (.long q0), .second, .val (.long zz), .second, .val (.long ad), .second, .val (.long j73), .second, .val (.long j56), .second, iv dq, iv mm, iv j67, iv dm] [])) rfl (hb hby d14_220) (by decide) (by decide)
  obtain ⟨b77, g77⟩ : ∃ z, z = h0.size := ⟨_, rfl⟩
  rw [← g77] at A77 D77 st77
  have g_b77 : n0 ≤ b77 := Nat.le_trans Z0 (Nat.le_of_eq g77.symm)
  have sz_b77 : h0.size ≤ b77 := Nat.le_trans kp0.1 (Nat.le_of_eq g77.symm)
  have fa78 := O0.ext E77
  have z79 : n0 ≤ h77.size := Nat.le_trans Z0 E77.1
  have kp80 : Keep h0 h77 [] := kp0.ext E77
  have fa81 : Fld Z h77 b77 "java/time/LocalDate" "year" "I" (.int (0 : Int32)) := D77 (Or.inr (hq hw 161 rfl)) (ty := .int) (by decide)
  have fa82 : Fld Z h77 b77 "java/time/LocalDate" "month" "S" (.int (0 : Int32)) := D77 (Or.inr (hq hw 163 rfl)) (ty := .short) (by decide)
  have fa83 : Fld Z h77 b77 "java/time/LocalDate" "day" "S" (.int (0 : Int32)) := D77 (Or.inr (hq hw 165 rfl)) (ty := .short) (by decide)
  obtain ⟨_, _, ⟨T84, L84, k84, n84⟩, -, X84, ⟨Lc84, hQ84, l84, y84, z84⟩, st84⟩ := X77.specialBack hx (y := (⟨"java/time/LocalDate", "<init>", "(III)V"⟩ : MethodName)) rfl hown (mvT hZ (hq hw 155 rfl)) (mvT hZ (hq hw 156 rfl)) (mvT hZ (hq hw 158 rfl)) (by decide) (backOf (W := 1) (rm21 l Z a0 hw [] b77 (j73.toInt32) j67 dm  h77 n0 z79 A77 fa81 fa82 fa83 g_b77 FI.1) hZ (hq hw 158 rfl) (hq hw 104 rfl) (by decide) (by decide)) (g := (mkF m 231 #[.val (.long q0), .second, .val (.long zz), .second, .val (.long ad), .second, .val (.long j73), .second, .val (.long j56), .second, iv dq, iv mm, iv j67, iv dm] [(.int dm), (.int j67), (.int (j73.toInt32)), (.ref b77), (.ref b77)])) rfl (by rw [hml]; rfl) (Steps.refl _) (a := b77) (argsL := [(.int (j73.toInt32)), (.int j67), (.int dm)]) (rest := [(.ref b77)]) (lenOf pd_5 rfl) rfl (by show 2 * 0 + _ ≤ _; exact Nat.le_of_eq rfl) (hb hby d14_231) (fun _ _ => ⟨rfl, e77, (by decide : 1 + 0 ≤ _), (by decide : 3 + 0 ≤ _)⟩)
  dsimp only [Pt.U, Pt.locs, Pt.cells, Pt.slots] at X84 l84 y84 z84 st84 hQ84
  subst l84 y84 z84
  obtain ⟨rfl, N84q, K84, A84, F84_0, F84_1, F84_2⟩ := hQ84
  have N84 := Fr.app N2 N84q
  have fa85 := fa78.keep K84 (allS g_b77 all0)
  have fa86 := A77.keep K84
  have z87 : n0 ≤ T84.heap.size := Nat.le_trans z79 K84.1
  have kp88 : Keep h0 T84.heap [] := kp80.trans K84 (allS (Or.inr sz_b77) all0)
  obtain ⟨fs, hr, hrun, hended, hW, hsame⟩ := X84.leave (v := some (.ref b77)) (fun h => by rw [Bd.returns] at h; cases h)
  refine ⟨_, _, G74 _ ?_, hrun, hended, _, _, rfl, ?_, ⟨_, rfl⟩, hW, hsame.mono (by decide) (by decide)⟩
  ·skip
   refine st77 _ ?_
   refine XS.dup X77.here hx rfl (hb hby d14_223) rfl rfl ?_
   refine XS.lload X77.here hx rfl (hb hby d14_224) rfl ?_
   refine XS.l2i X77.here hx rfl (hb hby d14_226) rfl ?_
   refine XS.iload X77.here hx rfl (hb hby d14_227) rfl ?_
   show Steps p.tables e below (T77.setTop (mkF m 229 #[.val (.long q0), .second, .val (.long zz), .second, .val (.long ad), .second, .val (.long j73), .second, .val (.long j56), .second, iv dq, iv mm, iv j67, iv dm] [(.int j67), (.int (j73.toInt32)), (.ref b77), (.ref b77)])) _
   refine XS.iload X77.here hx rfl (hb hby d14_229) rfl ?_
   refine st84.trans ?_
   exact retOut X84 hx Bd.returns rfl (Or.inr (Or.inr (Or.inr (Or.inr ⟨rfl, rfl, rfl⟩)))) (hb hby d14_234) hr
  ·show Q14 Z q0 eN eA eC ps crr ads sw oe efd rfd eyr ryr bt bf ic ksw h0 n0 _ T84.heap _
   exact ⟨b77, _, _, _, rfl, N84, kp88, fa86, F84_0, F84_1, F84_2, FI⟩
theorem d40_0 : decode jdk_2369_method_18_code 0 = .ok (.lload_n 1, 1) := by decide +kernel
theorem d40_1 : decode jdk_2369_method_18_code 1 = .ok (.ldc2_w 117, 3) := by decide +kernel
theorem d40_4 : decode jdk_2369_method_18_code 4 = .ok (.land, 1) := by decide +kernel
theorem d40_5 : decode jdk_2369_method_18_code 5 = .ok (.lconst 0, 1) := by decide +kernel
theorem d40_6 : decode jdk_2369_method_18_code 6 = .ok (.lcmp, 1) := by decide +kernel
theorem d40_7 : decode jdk_2369_method_18_code 7 = .ok (.ifCond .ne 27, 3) := by decide +kernel
theorem d40_10 : decode jdk_2369_method_18_code 10 = .ok (.lload_n 1, 1) := by decide +kernel
theorem d40_11 : decode jdk_2369_method_18_code 11 = .ok (.ldc2_w 123, 3) := by decide +kernel
theorem d40_14 : decode jdk_2369_method_18_code 14 = .ok (.lrem, 1) := by decide +kernel
theorem d40_15 : decode jdk_2369_method_18_code 15 = .ok (.lconst 0, 1) := by decide +kernel
theorem d40_16 : decode jdk_2369_method_18_code 16 = .ok (.lcmp, 1) := by decide +kernel
theorem d40_17 : decode jdk_2369_method_18_code 17 = .ok (.ifCond .ne 13, 3) := by decide +kernel
theorem d40_20 : decode jdk_2369_method_18_code 20 = .ok (.lload_n 1, 1) := by decide +kernel
theorem d40_21 : decode jdk_2369_method_18_code 21 = .ok (.ldc2_w 127, 3) := by decide +kernel
theorem d40_24 : decode jdk_2369_method_18_code 24 = .ok (.lrem, 1) := by decide +kernel
theorem d40_25 : decode jdk_2369_method_18_code 25 = .ok (.lconst 0, 1) := by decide +kernel
theorem d40_26 : decode jdk_2369_method_18_code 26 = .ok (.lcmp, 1) := by decide +kernel
theorem d40_27 : decode jdk_2369_method_18_code 27 = .ok (.ifCond .ne 7, 3) := by decide +kernel
theorem d40_30 : decode jdk_2369_method_18_code 30 = .ok (.iconst 1, 1) := by decide +kernel
theorem d40_31 : decode jdk_2369_method_18_code 31 = .ok (.goto 4, 3) := by decide +kernel
theorem d40_35 : decode jdk_2369_method_18_code 35 = .ok (.ireturn, 1) := by decide +kernel
theorem d40_34 : decode jdk_2369_method_18_code 34 = .ok (.iconst 0, 1) := by decide +kernel
def fly (q1 : Int64) : Int32 := if (q1 &&& (3 : Int64)) = (0 : Int64) then (if (q1 - (q1 / (100 : Int64)) * (100 : Int64)) = (0 : Int64) then (if (q1 - (q1 / (400 : Int64)) * (400 : Int64)) = (0 : Int64) then ((1 : Int32)) else ((0 : Int32))) else ((1 : Int32))) else ((0 : Int32))
def Q40 (Z : State) (r0 : Addr) (q1 : Int64) (h0 : Heap) (n0 : Nat) (v : Option Value) (h : Heap) (L : List Loc) : Prop := v = some (.int (fly q1)) ∧ Fr n0 L ∧ h = h0
theorem ef_rm40 (m : MethodId) (x0 : Addr) (x1 : Int64) : entryFrame m #[(.ref x0), (.long x1)] 3 = mkF m 0 #[.val (.ref x0), .val (.long x1), .second] [] := by first | (simp [entryFrame, mkF, argsToLocals, Value.category]; done) | rfl
theorem pnc_java_time_chrono_IsoChronology : plainName "java/time/chrono/IsoChronology" = true := by first | (simp [plainName, overriddenIn]; done) | decide +kernel
set_option maxRecDepth 65536 in
set_option maxHeartbeats 40000000 in
theorem rm40 (l : Launch) (Z : State) (a0 : Array Value) (hw : ∀ d ∈ tables_1, d.before a0 Z = true) (ws : List Jvm.Cond) (r0 : Addr) (q1 : Int64) (h0 : Heap) (n0 : Nat) (Z0 : n0 ≤ h0.size) :
  MetFree l (⟨"java/time/chrono/IsoChronology", "isLeapYear", "(J)Z"⟩ : MethodName) (head1 (Jvm.Cond.code (⟨"java/time/chrono/IsoChronology", "isLeapYear", "(J)Z"⟩ : MethodName) jdk_2369_method_18_code 3 (some .boolean) :: ws) ({ frames := 0, cells := 0, slots := 0, locals := 0 } : Room)) (fun a U => a = #[(.ref r0), (.long q1)] ∧ Z.Warmed39 U.vm ∧ U.heap = h0) (fun _ _ _ _ _ => True) (fun _ U o U' => ∃ v L, o = .returned v ∧ Q40 Z r0 q1 h0 n0 v U'.heap L ∧ FrameEnd U o U' L ({ frames := 0, cells := 0, slots := 0, locals := 0 } : Room).cells ({ frames := 0, cells := 0, slots := 0, locals := 0 } : Room).slots) := by
 refine MetFree.of_bodySF (plainFor_of_name pnc_java_time_chrono_IsoChronology) hisR ?_
 intro p e s m args below meth c s₁ Bd hml0 hP hK
 obtain ⟨rfl, hZ, hh⟩ := hP
 have hx := Bd.exec
 have hby := Bd.bytes
 have hml : c.maxLocals = 3 := hml0
 have hown : s.vm.findClass "java/time/chrono/IsoChronology" = some m.cls := findClass_of_methodNamed Bd.named
 have hnm := (name_of_methodNamed Bd.named Bd.method).1
 have X0 : Stand p l e ({ frames := 0, cells := 0, slots := 0, locals := 0 } : Room) s m #[(.ref r0), (.long q1)] below meth c s₁ [] 0 0 := Stand.of_body Bd
 have e0 : s₁.heap = h0 := by rw [← hh, Bd.state]; rfl
 have N0 := Fr.nil n0
 have kp0 : Keep h0 h0 [] := Keep.refl _ _
 have G0 : ∀ t, Steps p.tables e below (s₁.setTop (mkF m 0 #[rv r0, .val (.long q1), .second] [])) t → Steps p.tables e below (s₁.setTop (entryFrame m #[(.ref r0), (.long q1)] 3)) t := fun t k => castTop (ef_rm40 m r0 q1) k
 have G1 : ∀ t, Steps p.tables e below (s₁.setTop (mkF m 7 #[rv r0, .val (.long q1), .second] [(.int (lcmpW (q1 &&& (3 : Int64)) (0 : Int64)))])) t → Steps p.tables e below (s₁.setTop (entryFrame m #[(.ref r0), (.long q1)] 3)) t := by
  intro t kt
  refine G0 _ ?_
  refine XS.lloadN X0.here hx rfl (hb hby d40_0) rfl ?_
  refine X0.ldc2Long hx hown (mvT hZ (hq hw 295 rfl)) (g := (mkF m 1 #[rv r0, .val (.long q1), .second] [(.long q1)])) rfl (hb hby d40_1) _ ?_
  refine XS.land X0.here hx rfl (hb hby d40_4) rfl ?_
  refine XS.lconst X0.here hx rfl (hb hby d40_5) ?_
  refine XS.lcmp X0.here hx rfl (hb hby d40_6) rfl ?_
  exact kt
 by_cases hc7_2 : (q1 &&& (3 : Int64)) = (0 : Int64)
 ·skip
  have G3 : ∀ t, Steps p.tables e below (s₁.setTop (mkF m 17 #[rv r0, .val (.long q1), .second] [(.int (lcmpW (q1 - (q1 / (100 : Int64)) * (100 : Int64)) (0 : Int64)))])) t → Steps p.tables e below (s₁.setTop (entryFrame m #[(.ref r0), (.long q1)] 3)) t := by
   intro t kt
   refine G1 _ ?_
   refine XS.ifNo X0.here hx rfl (hb hby d40_7) rfl ((if0 _ _).trans (teq ((lw_eq _ _).mpr hc7_2)).2) ?_
   refine XS.lloadN X0.here hx rfl (hb hby d40_10) rfl ?_
   refine X0.ldc2Long hx hown (mvT hZ (hq hw 296 rfl)) (g := (mkF m 11 #[rv r0, .val (.long q1), .second] [(.long q1)])) rfl (hb hby d40_11) _ ?_
   refine XS.lrem X0.here hx rfl (hb hby d40_14) rfl (by decide) ?_
   refine XS.lconst X0.here hx rfl (hb hby d40_15) ?_
   refine XS.lcmp X0.here hx rfl (hb hby d40_16) rfl ?_
   exact kt
  by_cases hc17_4 : (q1 - (q1 / (100 : Int64)) * (100 : Int64)) = (0 : Int64)
  ·skip
   have G5 : ∀ t, Steps p.tables e below (s₁.setTop (mkF m 27 #[rv r0, .val (.long q1), .second] [(.int (lcmpW (q1 - (q1 / (400 : Int64)) * (400 : Int64)) (0 : Int64)))])) t → Steps p.tables e below (s₁.setTop (entryFrame m #[(.ref r0), (.long q1)] 3)) t := by
    intro t kt
    refine G3 _ ?_
    refine XS.ifNo X0.here hx rfl (hb hby d40_17) rfl ((if0 _ _).trans (teq ((lw_eq _ _).mpr hc17_4)).2) ?_
    refine XS.lloadN X0.here hx rfl (hb hby d40_20) rfl ?_
    refine X0.ldc2Long hx hown (mvT hZ (hq hw 306 rfl)) (g := (mkF m 21 #[rv r0, .val (.long q1), .second] [(.long q1)])) rfl (hb hby d40_21) _ ?_
    refine XS.lrem X0.here hx rfl (hb hby d40_24) rfl (by decide) ?_
    refine XS.lconst X0.here hx rfl (hb hby d40_25) ?_
    refine XS.lcmp X0.here hx rfl (hb hby d40_26) rfl ?_
    exact kt
   by_cases hc27_6 : (q1 - (q1 / (400 : Int64)) * (400 : Int64)) = (0 : Int64)
   ·skip
    obtain ⟨fs, hr, hrun, hended, hW, hsame⟩ := X0.leave (v := some (.int (1 : Int32))) (fun h => by rw [Bd.returns] at h; cases h)
    refine ⟨_, _, G5 _ ?_, hrun, hended, _, _, rfl, ?_, ⟨_, rfl⟩, hW, hsame.mono (by decide) (by decide)⟩
    ·skip
     refine XS.ifNo X0.here hx rfl (hb hby d40_27) rfl ((if0 _ _).trans (teq ((lw_eq _ _).mpr hc27_6)).2) ?_
     refine XS.iconst X0.here hx rfl (hb hby d40_30) ?_
     refine XS.goto X0.here hx rfl (pc0 := 31) (pc' := 35) rfl (hb hby d40_31) (by decide) (by decide) ?_
     exact retN X0 hx (t := .boolean) Bd.returns (by simp) (hb hby d40_35) hr
    ·show Q40 Z r0 q1 h0 n0 _ s₁.heap _
     rw [e0]
     exact ⟨by rw [fly, if_pos hc7_2, if_pos hc17_4, if_pos hc27_6], N0, rfl⟩
   ·skip
    obtain ⟨fs, hr, hrun, hended, hW, hsame⟩ := X0.leave (v := some (.int (0 : Int32))) (fun h => by rw [Bd.returns] at h; cases h)
    refine ⟨_, _, G5 _ ?_, hrun, hended, _, _, rfl, ?_, ⟨_, rfl⟩, hW, hsame.mono (by decide) (by decide)⟩
    ·skip
     refine XS.ifYes X0.here hx rfl (pc0 := 27) (pc' := 34) rfl (hb hby d40_27) rfl ((if0 _ _).trans (feq (fun q => hc27_6 ((lw_eq _ _).mp q))).2) (by decide) (by decide) ?_
     refine XS.iconst X0.here hx rfl (hb hby d40_34) ?_
     exact retN X0 hx (t := .boolean) Bd.returns (by simp) (hb hby d40_35) hr
    ·show Q40 Z r0 q1 h0 n0 _ s₁.heap _
     rw [e0]
     exact ⟨by rw [fly, if_pos hc7_2, if_pos hc17_4, if_neg hc27_6], N0, rfl⟩
  ·skip
   obtain ⟨fs, hr, hrun, hended, hW, hsame⟩ := X0.leave (v := some (.int (1 : Int32))) (fun h => by rw [Bd.returns] at h; cases h)
   refine ⟨_, _, G3 _ ?_, hrun, hended, _, _, rfl, ?_, ⟨_, rfl⟩, hW, hsame.mono (by decide) (by decide)⟩
   ·skip
    refine XS.ifYes X0.here hx rfl (pc0 := 17) (pc' := 30) rfl (hb hby d40_17) rfl ((if0 _ _).trans (feq (fun q => hc17_4 ((lw_eq _ _).mp q))).2) (by decide) (by decide) ?_
    refine XS.iconst X0.here hx rfl (hb hby d40_30) ?_
    refine XS.goto X0.here hx rfl (pc0 := 31) (pc' := 35) rfl (hb hby d40_31) (by decide) (by decide) ?_
    exact retN X0 hx (t := .boolean) Bd.returns (by simp) (hb hby d40_35) hr
   ·show Q40 Z r0 q1 h0 n0 _ s₁.heap _
    rw [e0]
    exact ⟨by rw [fly, if_pos hc7_2, if_neg hc17_4], N0, rfl⟩
 ·skip
  obtain ⟨fs, hr, hrun, hended, hW, hsame⟩ := X0.leave (v := some (.int (0 : Int32))) (fun h => by rw [Bd.returns] at h; cases h)
  refine ⟨_, _, G1 _ ?_, hrun, hended, _, _, rfl, ?_, ⟨_, rfl⟩, hW, hsame.mono (by decide) (by decide)⟩
  ·skip
   refine XS.ifYes X0.here hx rfl (pc0 := 7) (pc' := 34) rfl (hb hby d40_7) rfl ((if0 _ _).trans (feq (fun q => hc7_2 ((lw_eq _ _).mp q))).2) (by decide) (by decide) ?_
   refine XS.iconst X0.here hx rfl (hb hby d40_34) ?_
   exact retN X0 hx (t := .boolean) Bd.returns (by simp) (hb hby d40_35) hr
  ·show Q40 Z r0 q1 h0 n0 _ s₁.heap _
   rw [e0]
   exact ⟨by rw [fly, if_neg hc7_2], N0, rfl⟩
theorem d36_0 : decode jdk_2323_method_70_code 0 = .ok (.aload_n 0, 1) := by decide +kernel
theorem d36_1 : decode jdk_2323_method_70_code 1 = .ok (.getfield 246, 3) := by decide +kernel
theorem d36_4 : decode jdk_2323_method_70_code 4 = .ok (.aload_n 1, 1) := by decide +kernel
theorem d36_5 : decode jdk_2323_method_70_code 5 = .ok (.getfield 246, 3) := by decide +kernel
theorem d36_8 : decode jdk_2323_method_70_code 8 = .ok (.isub, 1) := by decide +kernel
theorem d36_9 : decode jdk_2323_method_70_code 9 = .ok (.istore_n 2, 1) := by decide +kernel
theorem d36_10 : decode jdk_2323_method_70_code 10 = .ok (.iload_n 2, 1) := by decide +kernel
theorem d36_11 : decode jdk_2323_method_70_code 11 = .ok (.ifCond .ne 27, 3) := by decide +kernel
theorem d36_14 : decode jdk_2323_method_70_code 14 = .ok (.aload_n 0, 1) := by decide +kernel
theorem d36_15 : decode jdk_2323_method_70_code 15 = .ok (.getfield 250, 3) := by decide +kernel
theorem d36_18 : decode jdk_2323_method_70_code 18 = .ok (.aload_n 1, 1) := by decide +kernel
theorem d36_19 : decode jdk_2323_method_70_code 19 = .ok (.getfield 250, 3) := by decide +kernel
theorem d36_22 : decode jdk_2323_method_70_code 22 = .ok (.isub, 1) := by decide +kernel
theorem d36_23 : decode jdk_2323_method_70_code 23 = .ok (.istore_n 2, 1) := by decide +kernel
theorem d36_24 : decode jdk_2323_method_70_code 24 = .ok (.iload_n 2, 1) := by decide +kernel
theorem d36_25 : decode jdk_2323_method_70_code 25 = .ok (.ifCond .ne 13, 3) := by decide +kernel
theorem d36_28 : decode jdk_2323_method_70_code 28 = .ok (.aload_n 0, 1) := by decide +kernel
theorem d36_29 : decode jdk_2323_method_70_code 29 = .ok (.getfield 253, 3) := by decide +kernel
theorem d36_32 : decode jdk_2323_method_70_code 32 = .ok (.aload_n 1, 1) := by decide +kernel
theorem d36_33 : decode jdk_2323_method_70_code 33 = .ok (.getfield 253, 3) := by decide +kernel
theorem d36_36 : decode jdk_2323_method_70_code 36 = .ok (.isub, 1) := by decide +kernel
theorem d36_37 : decode jdk_2323_method_70_code 37 = .ok (.istore_n 2, 1) := by decide +kernel
theorem d36_38 : decode jdk_2323_method_70_code 38 = .ok (.iload_n 2, 1) := by decide +kernel
theorem d36_39 : decode jdk_2323_method_70_code 39 = .ok (.ireturn, 1) := by decide +kernel
def fcp (yA mA dA yB mB dB : Int32) : Int32 := if (yA - yB) = (0 : Int32) then (if (mA - mB) = (0 : Int32) then ((dA - dB)) else ((mA - mB))) else ((yA - yB))
def Q36 (Z : State) (r0 : Addr) (r1 : Addr) (yA mA dA yB mB dB : Int32) (h0 : Heap) (n0 : Nat) (v : Option Value) (h : Heap) (L : List Loc) : Prop := v = some (.int (fcp yA mA dA yB mB dB)) ∧ Fr n0 L ∧ h = h0
theorem ef_rm36 (m : MethodId) (x0 : Addr) (x1 : Addr) : entryFrame m #[(.ref x0), (.ref x1)] 3 = mkF m 0 #[.val (.ref x0), .val (.ref x1), .unset] [] := by first | (simp [entryFrame, mkF, argsToLocals, Value.category]; done) | rfl
set_option maxRecDepth 65536 in
set_option maxHeartbeats 40000000 in
theorem rm36 (l : Launch) (Z : State) (a0 : Array Value) (hw : ∀ d ∈ tables_1, d.before a0 Z = true) (ws : List Jvm.Cond) (r0 : Addr) (r1 : Addr) (yA mA dA yB mB dB : Int32) (h0 : Heap) (n0 : Nat) (Z0 : n0 ≤ h0.size) (FyA : Fld Z h0 r0 "java/time/LocalDate" "year" "I" (.int yA)) (FmA : Fld Z h0 r0 "java/time/LocalDate" "month" "S" (.int mA)) (FdA : Fld Z h0 r0 "java/time/LocalDate" "day" "S" (.int dA)) (FyB : Fld Z h0 r1 "java/time/LocalDate" "year" "I" (.int yB)) (FmB : Fld Z h0 r1 "java/time/LocalDate" "month" "S" (.int mB)) (FdB : Fld Z h0 r1 "java/time/LocalDate" "day" "S" (.int dB)) :
  MetFree l (⟨"java/time/LocalDate", "compareTo0", "(Ljava/time/LocalDate;)I"⟩ : MethodName) (head1 (Jvm.Cond.code (⟨"java/time/LocalDate", "compareTo0", "(Ljava/time/LocalDate;)I"⟩ : MethodName) jdk_2323_method_70_code 3 (some .int) :: ws) ({ frames := 0, cells := 0, slots := 0, locals := 0 } : Room)) (fun a U => a = #[(.ref r0), (.ref r1)] ∧ Z.Warmed39 U.vm ∧ U.heap = h0) (fun _ _ _ _ _ => True) (fun _ U o U' => ∃ v L, o = .returned v ∧ Q36 Z r0 r1 yA mA dA yB mB dB h0 n0 v U'.heap L ∧ FrameEnd U o U' L ({ frames := 0, cells := 0, slots := 0, locals := 0 } : Room).cells ({ frames := 0, cells := 0, slots := 0, locals := 0 } : Room).slots) := by
 refine MetFree.of_bodySF (plainFor_of_name pnc_java_time_LocalDate) hisR ?_
 intro p e s m args below meth c s₁ Bd hml0 hP hK
 obtain ⟨rfl, hZ, hh⟩ := hP
 have hx := Bd.exec
 have hby := Bd.bytes
 have hml : c.maxLocals = 3 := hml0
 have hown : s.vm.findClass "java/time/LocalDate" = some m.cls := findClass_of_methodNamed Bd.named
 have hnm := (name_of_methodNamed Bd.named Bd.method).1
 have X0 : Stand p l e ({ frames := 0, cells := 0, slots := 0, locals := 0 } : Room) s m #[(.ref r0), (.ref r1)] below meth c s₁ [] 0 0 := Stand.of_body Bd
 have e0 : s₁.heap = h0 := by rw [← hh, Bd.state]; rfl
 have N0 := Fr.nil n0
 have kp0 : Keep h0 h0 [] := Keep.refl _ _
 have G0 : ∀ t, Steps p.tables e below (s₁.setTop (mkF m 0 #[rv r0, rv r1, .unset] [])) t → Steps p.tables e below (s₁.setTop (entryFrame m #[(.ref r0), (.ref r1)] 3)) t := fun t k => castTop (ef_rm36 m r0 r1) k
 obtain ⟨T1, X1, e1, st1⟩ := getF X0 hx hZ hown (host := "") (Or.inl (hq hw 160 rfl)) Via.refl e0 FyA (g := (mkF m 1 #[rv r0, rv r1, .unset] [(.ref r0)])) rfl rfl (hb hby d36_1)
 obtain ⟨T2, X2, e2, st2⟩ := getF X1 hx hZ hown (host := "") (Or.inl (hq hw 160 rfl)) Via.refl e1 FyB (g := (mkF m 5 #[rv r0, rv r1, .unset] [(.ref r1), (.int yA)])) rfl rfl (hb hby d36_5)
 have G3 : ∀ t, Steps p.tables e below (T2.setTop (mkF m 11 #[rv r0, rv r1, iv (yA - yB)] [(.int (yA - yB))])) t → Steps p.tables e below (s₁.setTop (entryFrame m #[(.ref r0), (.ref r1)] 3)) t := by
  intro t kt
  refine G0 _ ?_
  refine XS.aloadN X0.here hx rfl (hb hby d36_0) rfl rfl ?_
  refine st1 _ ?_
  refine XS.aloadN X1.here hx rfl (hb hby d36_4) rfl rfl ?_
  refine st2 _ ?_
  refine XS.isub X2.here hx rfl (hb hby d36_8) rfl ?_
  refine XS.istoreN X2.here hx rfl (hb hby d36_9) rfl (l' := #[rv r0, rv r1, iv (yA - yB)]) rfl ?_
  refine XS.iloadN X2.here hx rfl (hb hby d36_10) rfl ?_
  exact kt
 by_cases hc11_4 : (yA - yB) = (0 : Int32)
 ·skip
  obtain ⟨T5, X5, e5, st5⟩ := getF X2 hx hZ hown (host := "") (Or.inl (hq hw 162 rfl)) Via.refl e2 FmA (g := (mkF m 15 #[rv r0, rv r1, iv (yA - yB)] [(.ref r0)])) rfl rfl (hb hby d36_15)
  obtain ⟨T6, X6, e6, st6⟩ := getF X5 hx hZ hown (host := "") (Or.inl (hq hw 162 rfl)) Via.refl e5 FmB (g := (mkF m 19 #[rv r0, rv r1, iv (yA - yB)] [(.ref r1), (.int mA)])) rfl rfl (hb hby d36_19)
  have G7 : ∀ t, Steps p.tables e below (T6.setTop (mkF m 25 #[rv r0, rv r1, iv (mA - mB)] [(.int (mA - mB))])) t → Steps p.tables e below (s₁.setTop (entryFrame m #[(.ref r0), (.ref r1)] 3)) t := by
   intro t kt
   refine G3 _ ?_
   refine XS.ifNo X2.here hx rfl (hb hby d36_11) rfl ((if0 _ _).trans (teq hc11_4).2) ?_
   refine XS.aloadN X2.here hx rfl (hb hby d36_14) rfl rfl ?_
   refine st5 _ ?_
   refine XS.aloadN X5.here hx rfl (hb hby d36_18) rfl rfl ?_
   refine st6 _ ?_
   refine XS.isub X6.here hx rfl (hb hby d36_22) rfl ?_
   refine XS.istoreN X6.here hx rfl (hb hby d36_23) rfl (l' := #[rv r0, rv r1, iv (mA - mB)]) rfl ?_
   refine XS.iloadN X6.here hx rfl (hb hby d36_24) rfl ?_
   exact kt
  by_cases hc25_8 : (mA - mB) = (0 : Int32)
  ·skip
   obtain ⟨T9, X9, e9, st9⟩ := getF X6 hx hZ hown (host := "") (Or.inl (hq hw 164 rfl)) Via.refl e6 FdA (g := (mkF m 29 #[rv r0, rv r1, iv (mA - mB)] [(.ref r0)])) rfl rfl (hb hby d36_29)
   obtain ⟨T10, X10, e10, st10⟩ := getF X9 hx hZ hown (host := "") (Or.inl (hq hw 164 rfl)) Via.refl e9 FdB (g := (mkF m 33 #[rv r0, rv r1, iv (mA - mB)] [(.ref r1), (.int dA)])) rfl rfl (hb hby d36_33)
   obtain ⟨fs, hr, hrun, hended, hW, hsame⟩ := X10.leave (v := some (.int (dA - dB))) (fun h => by rw [Bd.returns] at h; cases h)
   refine ⟨_, _, G7 _ ?_, hrun, hended, _, _, rfl, ?_, ⟨_, rfl⟩, hW, hsame.mono (by decide) (by decide)⟩
   ·skip
    refine XS.ifNo X6.here hx rfl (hb hby d36_25) rfl ((if0 _ _).trans (teq hc25_8).2) ?_
    refine XS.aloadN X6.here hx rfl (hb hby d36_28) rfl rfl ?_
    refine st9 _ ?_
    refine XS.aloadN X9.here hx rfl (hb hby d36_32) rfl rfl ?_
    refine st10 _ ?_
    refine XS.isub X10.here hx rfl (hb hby d36_36) rfl ?_
    show Steps p.tables e below (T10.setTop (mkF m 37 #[rv r0, rv r1, iv (mA - mB)] [(.int (dA - dB))])) _
    refine XS.istoreN X10.here hx rfl (hb hby d36_37) rfl (l' := #[rv r0, rv r1, iv (dA - dB)]) rfl ?_
    refine XS.iloadN X10.here hx rfl (hb hby d36_38) rfl ?_
    exact retI X10 hx Bd.returns (hb hby d36_39) hr
   ·show Q36 Z r0 r1 yA mA dA yB mB dB h0 n0 _ T10.heap _
    rw [e10]
    exact ⟨by rw [fcp, if_pos hc11_4, if_pos hc25_8], N0, rfl⟩
  ·skip
   obtain ⟨fs, hr, hrun, hended, hW, hsame⟩ := X6.leave (v := some (.int (mA - mB))) (fun h => by rw [Bd.returns] at h; cases h)
   refine ⟨_, _, G7 _ ?_, hrun, hended, _, _, rfl, ?_, ⟨_, rfl⟩, hW, hsame.mono (by decide) (by decide)⟩
   ·skip
    refine XS.ifYes X6.here hx rfl (pc0 := 25) (pc' := 38) rfl (hb hby d36_25) rfl ((if0 _ _).trans (feq hc25_8).2) (by decide) (by decide) ?_
    refine XS.iloadN X6.here hx rfl (hb hby d36_38) rfl ?_
    exact retI X6 hx Bd.returns (hb hby d36_39) hr
   ·show Q36 Z r0 r1 yA mA dA yB mB dB h0 n0 _ T6.heap _
    rw [e6]
    exact ⟨by rw [fcp, if_pos hc11_4, if_neg hc25_8], N0, rfl⟩
 ·skip
  obtain ⟨fs, hr, hrun, hended, hW, hsame⟩ := X2.leave (v := some (.int (yA - yB))) (fun h => by rw [Bd.returns] at h; cases h)
  refine ⟨_, _, G3 _ ?_, hrun, hended, _, _, rfl, ?_, ⟨_, rfl⟩, hW, hsame.mono (by decide) (by decide)⟩
  ·skip
   refine XS.ifYes X2.here hx rfl (pc0 := 11) (pc' := 38) rfl (hb hby d36_11) rfl ((if0 _ _).trans (feq hc11_4).2) (by decide) (by decide) ?_
   refine XS.iloadN X2.here hx rfl (hb hby d36_38) rfl ?_
   exact retI X2 hx Bd.returns (hb hby d36_39) hr
  ·show Q36 Z r0 r1 yA mA dA yB mB dB h0 n0 _ T2.heap _
   rw [e2]
   exact ⟨by rw [fcp, if_neg hc11_4], N0, rfl⟩
theorem own_fly (y : Int32) : (fly (y.toInt64) = (0 : Int32) ↔ own_leap y.toInt = 0) ∧ (fly (y.toInt64) = 0 ∨ fly (y.toInt64) = 1) := by
  have e := c_i2l y
  generalize y.toInt64 = w at *
  have a := c_maskL w 3 2 (by decide) (by decide)
  have p2 : ((2 ^ 2 : Nat) : Int) = 4 := by decide
  rw [p2] at a
  have b := c_lrem w 100 100 l100
  have c := c_lrem w 400 400 l400
  have z4 : (w &&& (3 : Int64)) = (0 : Int64) ↔ y.toInt % 4 = 0 := by rw [← Int64.toInt_inj, l0, a, e]
  have z100 : (w - (w / (100 : Int64)) * (100 : Int64)) = (0 : Int64) ↔ y.toInt % 100 = 0 := by
    rw [← Int64.toInt_inj, l0, ← e]
    rcases Int.lt_or_le w.toInt 0 with q | q
    · rw [b.2 q]; omega
    · rw [b.1 q]
  have z400 : (w - (w / (400 : Int64)) * (400 : Int64)) = (0 : Int64) ↔ y.toInt % 400 = 0 := by
    rw [← Int64.toInt_inj, l0, ← e]
    rcases Int.lt_or_le w.toInt 0 with q | q
    · rw [c.2 q]; omega
    · rw [c.1 q]
  unfold fly own_leap
  simp only [z4, z100, z400]
  by_cases h1 : y.toInt % 4 = 0 <;> by_cases h2 : y.toInt % 100 = 0 <;> by_cases h3 : y.toInt % 400 = 0 <;> simp [h1, h2, h3]
theorem own_t2 {y m d : Int32} {z : Int} (D : own_dt y m d z) {mL j tq : Int64} (hmL : mL = (m.toInt64)) (hj : j.toInt = own_C y.toInt) (htq : tq = ((j + ((((367 : Int64) * mL) - (362 : Int64)) / (12 : Int64))) + ((d - (1 : Int32)).toInt64))) :
    (¬ ((2 : Int64) < mL) → (tq - (719528 : Int64)).toInt = z) ∧ ((2 : Int64) < mL → fly (y.toInt64) = (0 : Int32) → (((tq - (1 : Int64)) - (1 : Int64)) - (719528 : Int64)).toInt = z) ∧ ((2 : Int64) < mL → ¬ (fly (y.toInt64) = (0 : Int32)) → ((tq - (1 : Int64)) - (719528 : Int64)).toInt = z) := by
  have r := own_dr D
  have yb := own_yb D
  have lp := own_lp y.toInt
  have em : mL.toInt = m.toInt := by rw [hmL]; exact c_i2l m
  have k367 : (367 : Int64).toInt = 367 := by decide
  have k362 : (362 : Int64).toInt = 362 := by decide
  have k12 : (12 : Int64).toInt = 12 := by decide
  have k2 : (2 : Int64).toInt = 2 := by decide
  have k7 : (719528 : Int64).toInt = 719528 := by decide
  have s1 : (1 : Int32).toInt = 1 := by decide
  have bc : -30000000 * 400 ≤ own_C y.toInt ∧ own_C y.toInt ≤ 30000000 * 400 := by unfold own_C; omega
  have et : tq.toInt = own_C y.toInt + (367 * m.toInt - 362) / 12 + (d.toInt - 1) := by
    have a1 := c_lmul 367 mL
    have g1 := rng64 ((367 : Int64) * mL)
    rw [k367] at a1
    have e1 : ((367 : Int64) * mL).toInt = 367 * m.toInt := by omega
    rw [htq]
    generalize (367 : Int64) * mL = w1 at *
    have a2 := c_lsub w1 362
    have g2 := rng64 (w1 - 362)
    rw [k362] at a2
    have e2 : (w1 - 362).toInt = 367 * m.toInt - 362 := by omega
    generalize w1 - 362 = w2 at *
    have e3 := (c_ldiv w2 12 12 k12 (by decide)).1 (by omega)
    rw [e2] at e3
    generalize w2 / 12 = w3 at *
    have a4 := c_ladd j w3
    have g4 := rng64 (j + w3)
    have e4 : (j + w3).toInt = own_C y.toInt + (367 * m.toInt - 362) / 12 := by omega
    generalize j + w3 = w4 at *
    have a5 := c_isub d 1
    have g5 := rng32 (d - 1)
    rw [s1] at a5
    have e5 := c_i2l (d - 1)
    generalize (d - 1).toInt64 = w5 at *
    have a6 := c_ladd w4 w5
    have g6 := rng64 (w4 + w5)
    omega
  obtain ⟨v, E, b1, b2⟩ := D
  have fl := (own_fly y).1
  have u1 := c_lsub tq 719528
  have v1 := rng64 (tq - 719528)
  have u2 := c_lsub tq 1
  have v2 := rng64 (tq - 1)
  rw [k7] at u1
  rw [l1] at u2
  have e2 : (tq - 1).toInt = tq.toInt - 1 := by omega
  have u3 := c_lsub (tq - 1) 1
  have v3 := rng64 (tq - 1 - 1)
  rw [l1] at u3
  have u4 := c_lsub (tq - 1) 719528
  have v4 := rng64 (tq - 1 - 719528)
  rw [k7] at u4
  have u5 := c_lsub (tq - 1 - 1) 719528
  have v5 := rng64 (tq - 1 - 1 - 719528)
  rw [k7] at u5
  rw [Int64.lt_iff_toInt_lt, k2, em]
  unfold own_E at E
  refine ⟨fun h => ?_, fun h g => ?_, fun h g => ?_⟩
  · rw [if_neg h] at E; omega
  · rw [if_pos h, fl.mp g] at E; omega
  · rw [if_pos h] at E
    have : own_leap y.toInt = 1 := by rcases lp with q | q; exact absurd (fl.mpr q) g; exact q
    omega
theorem own_cmp {yA mA dA yB mB dB : Int32} {zA zB : Int} (DA : own_dt yA mA dA zA) (DB : own_dt yB mB dB zB) : fcp yA mA dA yB mB dB < (0 : Int32) ↔ zA < zB := by
  have rA := own_dr DA
  have rB := own_dr DB
  have bA := own_yb DA
  have bB := own_yb DB
  obtain ⟨vA, EA, -⟩ := DA
  obtain ⟨vB, EB, -⟩ := DB
  rw [← EA, ← EB, own_mon _ _ _ _ _ _ vA vB]
  have s0 : (0 : Int32).toInt = 0 := by decide
  have a1 := c_isub yA yB
  have g1 := rng32 (yA - yB)
  have a2 := c_isub mA mB
  have g2 := rng32 (mA - mB)
  have a3 := c_isub dA dB
  have g3 := rng32 (dA - dB)
  unfold fcp
  by_cases h1 : (yA - yB) = (0 : Int32)
  · rw [if_pos h1]
    rw [← Int32.toInt_inj, s0] at h1
    by_cases h2 : (mA - mB) = (0 : Int32)
    · rw [if_pos h2, Int32.lt_iff_toInt_lt, s0]
      rw [← Int32.toInt_inj, s0] at h2
      omega
    · rw [if_neg h2, Int32.lt_iff_toInt_lt, s0]
      rw [← Int32.toInt_inj, s0] at h2
      omega
  · rw [if_neg h1, Int32.lt_iff_toInt_lt, s0]
    rw [← Int32.toInt_inj, s0] at h1
    omega
theorem own_L31 {m q : Int} (h : m = 1 ∨ m = 3 ∨ m = 5 ∨ m = 7 ∨ m = 8 ∨ m = 10 ∨ m = 12) : (31 : Int32).toInt = own_L m q := by rw [show (31 : Int32).toInt = 31 by decide]; unfold own_L; (repeat' split) <;> omega
theorem own_L30 {m q : Int} (h : m = 4 ∨ m = 6 ∨ m = 9 ∨ m = 11) : (30 : Int32).toInt = own_L m q := by rw [show (30 : Int32).toInt = 30 by decide]; unfold own_L; (repeat' split) <;> omega
theorem own_lm {m : Int32} {y : Int32} : (m = 1 ∨ m = 3 ∨ m = 5 ∨ m = 7 ∨ m = 8 ∨ m = 10 ∨ m = 12 → (31 : Int32).toInt = own_L m.toInt (own_leap y.toInt)) ∧ (m = 4 ∨ m = 6 ∨ m = 9 ∨ m = 11 → (30 : Int32).toInt = own_L m.toInt (own_leap y.toInt)) ∧
    (m = 2 → fly (y.toInt64) = (0 : Int32) → (28 : Int32).toInt = own_L m.toInt (own_leap y.toInt)) ∧ (m = 2 → ¬ (fly (y.toInt64) = (0 : Int32)) → (29 : Int32).toInt = own_L m.toInt (own_leap y.toInt)) := by
  have fl := (own_fly y).1
  have lp := own_lp y.toInt
  refine ⟨?_, ?_, ?_, ?_⟩
  · rintro (rfl | rfl | rfl | rfl | rfl | rfl | rfl) <;> exact own_L31 (by decide)
  · rintro (rfl | rfl | rfl | rfl) <;> exact own_L30 (by decide)
  · rintro rfl g; rw [fl.mp g]; decide
  · rintro rfl g
    have : own_leap y.toInt = 1 := by rcases lp with q | q; exact absurd (fl.mpr q) g; exact q
    rw [this]; decide

theorem d39_0 : decode jdk_2323_method_30_code 0 = .ok (.getstatic 70, 3) := by decide +kernel
theorem d39_3 : decode jdk_2323_method_30_code 3 = .ok (.aload_n 0, 1) := by decide +kernel
theorem d39_4 : decode jdk_2323_method_30_code 4 = .ok (.getfield 246, 3) := by decide +kernel
theorem d39_7 : decode jdk_2323_method_30_code 7 = .ok (.i2l, 1) := by decide +kernel
theorem d39_8 : decode jdk_2323_method_30_code 8 = .ok (.invokevirtual 76, 3) := by decide +kernel
theorem d39_11 : decode jdk_2323_method_30_code 11 = .ok (.ireturn, 1) := by decide +kernel
def Q39 (Z : State) (r0 : Addr) (eN eA eC ps crr ads sw oe efd rfd eyr ryr bt bf ic : Addr) (ksw : ClassId) (yA : Int32) (h0 : Heap) (n0 : Nat) (v : Option Value) (h : Heap) (L : List Loc) : Prop := v = some (.int (fly (yA.toInt64))) ∧ Fr n0 L ∧ h = h0
theorem ef_rm39 (m : MethodId) (x0 : Addr) : entryFrame m #[(.ref x0)] 1 = mkF m 0 #[.val (.ref x0)] [] := by first | (simp [entryFrame, mkF, argsToLocals, Value.category]; done) | rfl
set_option maxRecDepth 65536 in
set_option maxHeartbeats 40000000 in
theorem rm39 (l : Launch) (Z : State) (a0 : Array Value) (hw : ∀ d ∈ tables_1, d.before a0 Z = true) (ws : List Jvm.Cond) (r0 : Addr) (eN eA eC ps crr ads sw oe efd rfd eyr ryr bt bf ic : Addr) (ksw : ClassId) (yA : Int32) (h0 : Heap) (n0 : Nat) (Z0 : n0 ≤ h0.size) (O0 : Old Z n0 h0) (FyA : Fld Z h0 r0 "java/time/LocalDate" "year" "I" (.int yA)) (SS : Stw Z eN eA eC ps crr ads sw oe efd rfd eyr ryr bt bf ic ksw) :
  MetFree l (⟨"java/time/LocalDate", "isLeapYear", "()Z"⟩ : MethodName) (head1 (Jvm.Cond.code (⟨"java/time/LocalDate", "isLeapYear", "()Z"⟩ : MethodName) jdk_2323_method_30_code 1 (some .boolean) :: ws) ({ frames := 1, cells := 0, slots := 0, locals := 14 } : Room)) (fun a U => a = #[(.ref r0)] ∧ Z.Warmed39 U.vm ∧ U.heap = h0) (fun _ _ _ _ _ => True) (fun _ U o U' => ∃ v L, o = .returned v ∧ Q39 Z r0 eN eA eC ps crr ads sw oe efd rfd eyr ryr bt bf ic ksw yA h0 n0 v U'.heap L ∧ FrameEnd U o U' L ({ frames := 1, cells := 0, slots := 0, locals := 14 } : Room).cells ({ frames := 1, cells := 0, slots := 0, locals := 14 } : Room).slots) := by
 refine MetFree.of_bodySF (plainFor_of_name pnc_java_time_LocalDate) hisR ?_
 intro p e s m args below meth c s₁ Bd hml0 hP hK
 obtain ⟨rfl, hZ, hh⟩ := hP
 have hx := Bd.exec
 have hby := Bd.bytes
 have hml : c.maxLocals = 1 := hml0
 have hown : s.vm.findClass "java/time/LocalDate" = some m.cls := findClass_of_methodNamed Bd.named
 have hnm := (name_of_methodNamed Bd.named Bd.method).1
 have X0 : Stand p l e ({ frames := 1, cells := 0, slots := 0, locals := 14 } : Room) s m #[(.ref r0)] below meth c s₁ [] 0 0 := Stand.of_body Bd
 have e0 : s₁.heap = h0 := by rw [← hh, Bd.state]; rfl
 have N0 := Fr.nil n0
 have kp0 : Keep h0 h0 [] := Keep.refl _ _
 have G0 : ∀ t, Steps p.tables e below (s₁.setTop (mkF m 0 #[rv r0] [])) t → Steps p.tables e below (s₁.setTop (entryFrame m #[(.ref r0)] 1)) t := fun t k => castTop (ef_rm39 m r0) k
 obtain ⟨T1, X1, e1, st1⟩ := getS2 X0 hx hZ hown (host := "") (Or.inl (hq hw 288 rfl)) Via.refl e0 (SS.2.2.2.2.2.2.2.2.2.2.2.2.1.ext O0.2) (g := (mkF m 0 #[rv r0] [])) rfl (hb hby d39_0)
 obtain ⟨T2, X2, e2, st2⟩ := getF X1 hx hZ hown (host := "") (Or.inl (hq hw 160 rfl)) Via.refl e1 FyA (g := (mkF m 4 #[rv r0] [(.ref r0), (.ref ic)])) rfl rfl (hb hby d39_4)
 obtain ⟨cq3, kq3, q3a, q3b, q3c⟩ := isOf hZ e2 (SS.2.2.2.2.2.2.2.2.2.2.2.2.2.2.2.2.2.2.2.2.2.2.2.2.2.2.2.2.2.2.2.2.2.2.2.2.ext O0.2)
 obtain ⟨_, _, ⟨T3, L3, k3, n3⟩, -, X3, ⟨Lc3, hQ3, l3, y3, z3⟩, st3⟩ := X2.virtualBack hx (y := (⟨"java/time/chrono/IsoChronology", "isLeapYear", "(J)Z"⟩ : MethodName)) (z := (⟨"java/time/chrono/IsoChronology", "isLeapYear", "(J)Z"⟩ : MethodName)) hown (mvT hZ (hq hw 290 rfl)) (mvT hZ (hq hw 291 rfl)) (notFace_of_selects (args := #[]) (mvT hZ (hq hw 293 rfl))) (mvT hZ (hq hw 293 rfl)) (mvT hZ (hq hw 292 rfl)) (by decide) (backOf (W := 0) (rm40 l Z a0 hw [] ic (yA.toInt64)  h0 n0 Z0 ) hZ (hq hw 294 rfl) (hq hw 289 rfl) (by decide) (by decide)) q3a q3c (g := (mkF m 8 #[rv r0] [(.long (yA.toInt64)), (.ref ic)])) rfl (by rw [hml]; rfl) (Steps.refl _) (argsL := [(.long (yA.toInt64))]) (rest := []) (lenOf pd_1 rfl) rfl (by show 2 * 0 + _ ≤ _; exact Nat.le_of_eq rfl) (hb hby d39_8) (fun _ _ => ⟨rfl, e2, (by decide : 0 + 0 ≤ _), (by decide : 0 + 0 ≤ _)⟩)
 dsimp only [Pt.U, Pt.locs, Pt.cells, Pt.slots] at X3 l3 y3 z3 st3 hQ3
 subst l3 y3 z3
 obtain ⟨rfl, N3q, eh3⟩ := hQ3
 have N3 := Fr.app N0 N3q
 obtain ⟨fs, hr, hrun, hended, hW, hsame⟩ := X3.leave (v := some (.int (nar .boolean (fly (yA.toInt64))))) (fun h => by rw [Bd.returns] at h; cases h)
 refine ⟨_, _, G0 _ ?_, hrun, hended, _, _, rfl, ?_, ⟨_, rfl⟩, hW, hsame.mono (by decide) (by decide)⟩
 ·skip
  refine st1 _ ?_
  refine XS.aloadN X1.here hx rfl (hb hby d39_3) rfl rfl ?_
  refine st2 _ ?_
  refine XS.i2l X2.here hx rfl (hb hby d39_7) rfl ?_
  refine st3.trans ?_
  exact retN X3 hx (t := .boolean) Bd.returns (by simp) (hb hby d39_11) hr
 ·show Q39 Z r0 eN eA eC ps crr ads sw oe efd rfd eyr ryr bt bf ic ksw yA h0 n0 _ T3.heap _
  rw [eh3]
  exact ⟨by rw [own_nz (own_fly yA).2], N3, rfl⟩
theorem d32_0 : decode jdk_2323_method_67_code 0 = .ok (.aload_n 0, 1) := by decide +kernel
theorem d32_1 : decode jdk_2323_method_67_code 1 = .ok (.getfield 246, 3) := by decide +kernel
theorem d32_4 : decode jdk_2323_method_67_code 4 = .ok (.i2l, 1) := by decide +kernel
theorem d32_5 : decode jdk_2323_method_67_code 5 = .ok (.lstore_n 1, 1) := by decide +kernel
theorem d32_6 : decode jdk_2323_method_67_code 6 = .ok (.aload_n 0, 1) := by decide +kernel
theorem d32_7 : decode jdk_2323_method_67_code 7 = .ok (.getfield 250, 3) := by decide +kernel
theorem d32_10 : decode jdk_2323_method_67_code 10 = .ok (.i2l, 1) := by decide +kernel
theorem d32_11 : decode jdk_2323_method_67_code 11 = .ok (.lstore_n 3, 1) := by decide +kernel
theorem d32_12 : decode jdk_2323_method_67_code 12 = .ok (.lconst 0, 1) := by decide +kernel
theorem d32_13 : decode jdk_2323_method_67_code 13 = .ok (.lstore 5, 2) := by decide +kernel
theorem d32_15 : decode jdk_2323_method_67_code 15 = .ok (.lload 5, 2) := by decide +kernel
theorem d32_17 : decode jdk_2323_method_67_code 17 = .ok (.ldc2_w 174, 3) := by decide +kernel
theorem d32_20 : decode jdk_2323_method_67_code 20 = .ok (.lload_n 1, 1) := by decide +kernel
theorem d32_21 : decode jdk_2323_method_67_code 21 = .ok (.lmul, 1) := by decide +kernel
theorem d32_22 : decode jdk_2323_method_67_code 22 = .ok (.ladd, 1) := by decide +kernel
theorem d32_23 : decode jdk_2323_method_67_code 23 = .ok (.lstore 5, 2) := by decide +kernel
theorem d32_25 : decode jdk_2323_method_67_code 25 = .ok (.lload_n 1, 1) := by decide +kernel
theorem d32_26 : decode jdk_2323_method_67_code 26 = .ok (.lconst 0, 1) := by decide +kernel
theorem d32_27 : decode jdk_2323_method_67_code 27 = .ok (.lcmp, 1) := by decide +kernel
theorem d32_28 : decode jdk_2323_method_67_code 28 = .ok (.ifCond .lt 40, 3) := by decide +kernel
theorem d32_68 : decode jdk_2323_method_67_code 68 = .ok (.lload 5, 2) := by decide +kernel
theorem d32_70 : decode jdk_2323_method_67_code 70 = .ok (.lload_n 1, 1) := by decide +kernel
theorem d32_71 : decode jdk_2323_method_67_code 71 = .ok (.ldc2_w 658, 3) := by decide +kernel
theorem d32_74 : decode jdk_2323_method_67_code 74 = .ok (.ldiv, 1) := by decide +kernel
theorem d32_75 : decode jdk_2323_method_67_code 75 = .ok (.lload_n 1, 1) := by decide +kernel
theorem d32_76 : decode jdk_2323_method_67_code 76 = .ok (.ldc2_w 660, 3) := by decide +kernel
theorem d32_79 : decode jdk_2323_method_67_code 79 = .ok (.ldiv, 1) := by decide +kernel
theorem d32_80 : decode jdk_2323_method_67_code 80 = .ok (.lsub, 1) := by decide +kernel
theorem d32_81 : decode jdk_2323_method_67_code 81 = .ok (.lload_n 1, 1) := by decide +kernel
theorem d32_82 : decode jdk_2323_method_67_code 82 = .ok (.ldc2_w 662, 3) := by decide +kernel
theorem d32_85 : decode jdk_2323_method_67_code 85 = .ok (.ldiv, 1) := by decide +kernel
theorem d32_86 : decode jdk_2323_method_67_code 86 = .ok (.ladd, 1) := by decide +kernel
theorem d32_87 : decode jdk_2323_method_67_code 87 = .ok (.lsub, 1) := by decide +kernel
theorem d32_88 : decode jdk_2323_method_67_code 88 = .ok (.lstore 5, 2) := by decide +kernel
theorem d32_31 : decode jdk_2323_method_67_code 31 = .ok (.lload 5, 2) := by decide +kernel
theorem d32_33 : decode jdk_2323_method_67_code 33 = .ok (.lload_n 1, 1) := by decide +kernel
theorem d32_34 : decode jdk_2323_method_67_code 34 = .ok (.ldc2_w 370, 3) := by decide +kernel
theorem d32_37 : decode jdk_2323_method_67_code 37 = .ok (.ladd, 1) := by decide +kernel
theorem d32_38 : decode jdk_2323_method_67_code 38 = .ok (.ldc2_w 176, 3) := by decide +kernel
theorem d32_41 : decode jdk_2323_method_67_code 41 = .ok (.ldiv, 1) := by decide +kernel
theorem d32_42 : decode jdk_2323_method_67_code 42 = .ok (.lload_n 1, 1) := by decide +kernel
theorem d32_43 : decode jdk_2323_method_67_code 43 = .ok (.ldc2_w 654, 3) := by decide +kernel
theorem d32_46 : decode jdk_2323_method_67_code 46 = .ok (.ladd, 1) := by decide +kernel
theorem d32_47 : decode jdk_2323_method_67_code 47 = .ok (.ldc2_w 178, 3) := by decide +kernel
theorem d32_50 : decode jdk_2323_method_67_code 50 = .ok (.ldiv, 1) := by decide +kernel
theorem d32_51 : decode jdk_2323_method_67_code 51 = .ok (.lsub, 1) := by decide +kernel
theorem d32_52 : decode jdk_2323_method_67_code 52 = .ok (.lload_n 1, 1) := by decide +kernel
theorem d32_53 : decode jdk_2323_method_67_code 53 = .ok (.ldc2_w 656, 3) := by decide +kernel
theorem d32_56 : decode jdk_2323_method_67_code 56 = .ok (.ladd, 1) := by decide +kernel
theorem d32_57 : decode jdk_2323_method_67_code 57 = .ok (.ldc2_w 170, 3) := by decide +kernel
theorem d32_60 : decode jdk_2323_method_67_code 60 = .ok (.ldiv, 1) := by decide +kernel
theorem d32_61 : decode jdk_2323_method_67_code 61 = .ok (.ladd, 1) := by decide +kernel
theorem d32_62 : decode jdk_2323_method_67_code 62 = .ok (.ladd, 1) := by decide +kernel
theorem d32_63 : decode jdk_2323_method_67_code 63 = .ok (.lstore 5, 2) := by decide +kernel
theorem d32_65 : decode jdk_2323_method_67_code 65 = .ok (.goto 25, 3) := by decide +kernel
theorem d32_90 : decode jdk_2323_method_67_code 90 = .ok (.lload 5, 2) := by decide +kernel
theorem d32_92 : decode jdk_2323_method_67_code 92 = .ok (.ldc2_w 664, 3) := by decide +kernel
theorem d32_95 : decode jdk_2323_method_67_code 95 = .ok (.lload_n 3, 1) := by decide +kernel
theorem d32_96 : decode jdk_2323_method_67_code 96 = .ok (.lmul, 1) := by decide +kernel
theorem d32_97 : decode jdk_2323_method_67_code 97 = .ok (.ldc2_w 666, 3) := by decide +kernel
theorem d32_100 : decode jdk_2323_method_67_code 100 = .ok (.lsub, 1) := by decide +kernel
theorem d32_101 : decode jdk_2323_method_67_code 101 = .ok (.ldc2_w 359, 3) := by decide +kernel
theorem d32_104 : decode jdk_2323_method_67_code 104 = .ok (.ldiv, 1) := by decide +kernel
theorem d32_105 : decode jdk_2323_method_67_code 105 = .ok (.ladd, 1) := by decide +kernel
theorem d32_106 : decode jdk_2323_method_67_code 106 = .ok (.lstore 5, 2) := by decide +kernel
theorem d32_108 : decode jdk_2323_method_67_code 108 = .ok (.lload 5, 2) := by decide +kernel
theorem d32_110 : decode jdk_2323_method_67_code 110 = .ok (.aload_n 0, 1) := by decide +kernel
theorem d32_111 : decode jdk_2323_method_67_code 111 = .ok (.getfield 253, 3) := by decide +kernel
theorem d32_114 : decode jdk_2323_method_67_code 114 = .ok (.iconst 1, 1) := by decide +kernel
theorem d32_115 : decode jdk_2323_method_67_code 115 = .ok (.isub, 1) := by decide +kernel
theorem d32_116 : decode jdk_2323_method_67_code 116 = .ok (.i2l, 1) := by decide +kernel
theorem d32_117 : decode jdk_2323_method_67_code 117 = .ok (.ladd, 1) := by decide +kernel
theorem d32_118 : decode jdk_2323_method_67_code 118 = .ok (.lstore 5, 2) := by decide +kernel
theorem d32_120 : decode jdk_2323_method_67_code 120 = .ok (.lload_n 3, 1) := by decide +kernel
theorem d32_121 : decode jdk_2323_method_67_code 121 = .ok (.ldc2_w 668, 3) := by decide +kernel
theorem d32_124 : decode jdk_2323_method_67_code 124 = .ok (.lcmp, 1) := by decide +kernel
theorem d32_125 : decode jdk_2323_method_67_code 125 = .ok (.ifCond .le 22, 3) := by decide +kernel
theorem d32_128 : decode jdk_2323_method_67_code 128 = .ok (.lload 5, 2) := by decide +kernel
theorem d32_130 : decode jdk_2323_method_67_code 130 = .ok (.lconst 1, 1) := by decide +kernel
theorem d32_131 : decode jdk_2323_method_67_code 131 = .ok (.lsub, 1) := by decide +kernel
theorem d32_132 : decode jdk_2323_method_67_code 132 = .ok (.lstore 5, 2) := by decide +kernel
theorem d32_134 : decode jdk_2323_method_67_code 134 = .ok (.aload_n 0, 1) := by decide +kernel
theorem d32_135 : decode jdk_2323_method_67_code 135 = .ok (.invokevirtual 297, 3) := by decide +kernel
theorem pd_6 : parseMethodDescriptor "()Z" = some ⟨[], some .boolean⟩ := by decide +kernel
theorem d32_138 : decode jdk_2323_method_67_code 138 = .ok (.ifCond .ne 9, 3) := by decide +kernel
theorem d32_141 : decode jdk_2323_method_67_code 141 = .ok (.lload 5, 2) := by decide +kernel
theorem d32_143 : decode jdk_2323_method_67_code 143 = .ok (.lconst 1, 1) := by decide +kernel
theorem d32_144 : decode jdk_2323_method_67_code 144 = .ok (.lsub, 1) := by decide +kernel
theorem d32_145 : decode jdk_2323_method_67_code 145 = .ok (.lstore 5, 2) := by decide +kernel
theorem d32_147 : decode jdk_2323_method_67_code 147 = .ok (.lload 5, 2) := by decide +kernel
theorem d32_149 : decode jdk_2323_method_67_code 149 = .ok (.ldc2_w 164, 3) := by decide +kernel
theorem d32_152 : decode jdk_2323_method_67_code 152 = .ok (.lsub, 1) := by decide +kernel
theorem d32_153 : decode jdk_2323_method_67_code 153 = .ok (.lreturn, 1) := by decide +kernel
def Q32 (Z : State) (r0 : Addr) (eN eA eC ps crr ads sw oe efd rfd eyr ryr bt bf ic : Addr) (ksw : ClassId) (yA mA dA : Int32) (zA : Int) (h0 : Heap) (n0 : Nat) (v : Option Value) (h : Heap) (L : List Loc) : Prop := ∃ q : Int64, v = some (.long q) ∧ q.toInt = zA ∧ Fr n0 L ∧ h = h0
theorem ef_rm32 (m : MethodId) (x0 : Addr) : entryFrame m #[(.ref x0)] 7 = mkF m 0 #[.val (.ref x0), .unset, .unset, .unset, .unset, .unset, .unset] [] := by first | (simp [entryFrame, mkF, argsToLocals, Value.category]; done) | rfl
set_option maxRecDepth 65536 in
set_option maxHeartbeats 40000000 in
theorem rm32 (l : Launch) (Z : State) (a0 : Array Value) (hw : ∀ d ∈ tables_1, d.before a0 Z = true) (ws : List Jvm.Cond) (r0 : Addr) (eN eA eC ps crr ads sw oe efd rfd eyr ryr bt bf ic : Addr) (ksw : ClassId) (yA mA dA : Int32) (zA : Int) (h0 : Heap) (n0 : Nat) (Z0 : n0 ≤ h0.size) (O0 : Old Z n0 h0) (ExA : Exa Z h0 r0 "java/time/LocalDate") (FyA : Fld Z h0 r0 "java/time/LocalDate" "year" "I" (.int yA)) (FmA : Fld Z h0 r0 "java/time/LocalDate" "month" "S" (.int mA)) (FdA : Fld Z h0 r0 "java/time/LocalDate" "day" "S" (.int dA)) (SS : Stw Z eN eA eC ps crr ads sw oe efd rfd eyr ryr bt bf ic ksw) (DA : own_dt yA mA dA zA) :
  MetFree l (⟨"java/time/LocalDate", "toEpochDay", "()J"⟩ : MethodName) (head1 (Jvm.Cond.code (⟨"java/time/LocalDate", "toEpochDay", "()J"⟩ : MethodName) jdk_2323_method_67_code 7 (some .long) :: ws) ({ frames := 2, cells := 0, slots := 0, locals := 26 } : Room)) (fun a U => a = #[(.ref r0)] ∧ Z.Warmed39 U.vm ∧ U.heap = h0) (fun _ _ _ _ _ => True) (fun _ U o U' => ∃ v L, o = .returned v ∧ Q32 Z r0 eN eA eC ps crr ads sw oe efd rfd eyr ryr bt bf ic ksw yA mA dA zA h0 n0 v U'.heap L ∧ FrameEnd U o U' L ({ frames := 2, cells := 0, slots := 0, locals := 26 } : Room).cells ({ frames := 2, cells := 0, slots := 0, locals := 26 } : Room).slots) := by
 refine MetFree.of_bodySF (plainFor_of_name pnc_java_time_LocalDate) hisR ?_
 intro p e s m args below meth c s₁ Bd hml0 hP hK
 obtain ⟨rfl, hZ, hh⟩ := hP
 have hx := Bd.exec
 have hby := Bd.bytes
 have hml : c.maxLocals = 7 := hml0
 have hown : s.vm.findClass "java/time/LocalDate" = some m.cls := findClass_of_methodNamed Bd.named
 have hnm := (name_of_methodNamed Bd.named Bd.method).1
 have X0 : Stand p l e ({ frames := 2, cells := 0, slots := 0, locals := 26 } : Room) s m #[(.ref r0)] below meth c s₁ [] 0 0 := Stand.of_body Bd
 have e0 : s₁.heap = h0 := by rw [← hh, Bd.state]; rfl
 have N0 := Fr.nil n0
 have kp0 : Keep h0 h0 [] := Keep.refl _ _
 have G0 : ∀ t, Steps p.tables e below (s₁.setTop (mkF m 0 #[rv r0, .unset, .unset, .unset, .unset, .unset, .unset] [])) t → Steps p.tables e below (s₁.setTop (entryFrame m #[(.ref r0)] 7)) t := fun t k => castTop (ef_rm32 m r0) k
 obtain ⟨T1, X1, e1, st1⟩ := getF X0 hx hZ hown (host := "") (Or.inl (hq hw 160 rfl)) Via.refl e0 FyA (g := (mkF m 1 #[rv r0, .unset, .unset, .unset, .unset, .unset, .unset] [(.ref r0)])) rfl rfl (hb hby d32_1)
 obtain ⟨T2, X2, e2, st2⟩ := getF X1 hx hZ hown (host := "") (Or.inl (hq hw 162 rfl)) Via.refl e1 FmA (g := (mkF m 7 #[rv r0, .val (.long (yA.toInt64)), .second, .unset, .unset, .unset, .unset] [(.ref r0)])) rfl rfl (hb hby d32_7)
 have G3 : ∀ t, Steps p.tables e below (T2.setTop (mkF m 15 #[rv r0, .val (.long (yA.toInt64)), .second, .val (.long (mA.toInt64)), .second, .val (.long (0 : Int64)), .second] [])) t → Steps p.tables e below (s₁.setTop (entryFrame m #[(.ref r0)] 7)) t := by
  intro t kt
  refine G0 _ ?_
  refine XS.aloadN X0.here hx rfl (hb hby d32_0) rfl rfl ?_
  refine st1 _ ?_
  refine XS.i2l X1.here hx rfl (hb hby d32_4) rfl ?_
  refine XS.lstoreN X1.here hx rfl (hb hby d32_5) rfl (l' := #[rv r0, .val (.long (yA.toInt64)), .second, .unset, .unset, .unset, .unset]) rfl ?_
  refine XS.aloadN X1.here hx rfl (hb hby d32_6) rfl rfl ?_
  refine st2 _ ?_
  refine XS.i2l X2.here hx rfl (hb hby d32_10) rfl ?_
  refine XS.lstoreN X2.here hx rfl (hb hby d32_11) rfl (l' := #[rv r0, .val (.long (yA.toInt64)), .second, .val (.long (mA.toInt64)), .second, .unset, .unset]) rfl ?_
  refine XS.lconst X2.here hx rfl (hb hby d32_12) ?_
  refine XS.lstore X2.here hx rfl (hb hby d32_13) rfl (l' := #[rv r0, .val (.long (yA.toInt64)), .second, .val (.long (mA.toInt64)), .second, .val (.long (0 : Int64)), .second]) rfl ?_
  exact kt
 obtain ⟨yL, hyL⟩ : ∃ z : Int64, z = (yA.toInt64) := ⟨_, rfl⟩
 obtain ⟨mL, hmL⟩ : ∃ z : Int64, z = (mA.toInt64) := ⟨_, rfl⟩
 have G4 : ∀ t, Steps p.tables e below (T2.setTop (mkF m 15 #[rv r0, .val (.long yL), .second, .val (.long mL), .second, .val (.long (0 : Int64)), .second] [])) t → Steps p.tables e below (s₁.setTop (entryFrame m #[(.ref r0)] 7)) t := by
  intro t kt
  rw [hyL, hmL] at kt
  exact G3 t kt
 have G5 : ∀ t, Steps p.tables e below (T2.setTop (mkF m 25 #[rv r0, .val (.long yL), .second, .val (.long mL), .second, .val (.long ((0 : Int64) + ((365 : Int64) * yL))), .second] [])) t → Steps p.tables e below (s₁.setTop (entryFrame m #[(.ref r0)] 7)) t := by
  intro t kt
  refine G4 _ ?_
  refine XS.lload X2.here hx rfl (hb hby d32_15) rfl ?_
  refine X2.ldc2Long hx hown (mvT hZ (hq hw 150 rfl)) (g := (mkF m 17 #[rv r0, .val (.long yL), .second, .val (.long mL), .second, .val (.long (0 : Int64)), .second] [(.long (0 : Int64))])) rfl (hb hby d32_17) _ ?_
  refine XS.lloadN X2.here hx rfl (hb hby d32_20) rfl ?_
  refine XS.lmul X2.here hx rfl (hb hby d32_21) rfl ?_
  refine XS.ladd X2.here hx rfl (hb hby d32_22) rfl ?_
  refine XS.lstore X2.here hx rfl (hb hby d32_23) rfl (l' := #[rv r0, .val (.long yL), .second, .val (.long mL), .second, .val (.long ((0 : Int64) + ((365 : Int64) * yL))), .second]) rfl ?_
  exact kt
 obtain ⟨to, hto⟩ : ∃ z : Int64, z = ((0 : Int64) + ((365 : Int64) * yL)) := ⟨_, rfl⟩
 have G6 : ∀ t, Steps p.tables e below (T2.setTop (mkF m 25 #[rv r0, .val (.long yL), .second, .val (.long mL), .second, .val (.long to), .second] [])) t → Steps p.tables e below (s₁.setTop (entryFrame m #[(.ref r0)] 7)) t := by
  intro t kt
  rw [hto] at kt
  exact G5 t kt
 obtain ⟨j7, hj7⟩ : ∃ z : Int64, z = (if yL < (0 : Int64) then (to - (((yL / (-4 : Int64)) - (yL / (-100 : Int64))) + (yL / (-400 : Int64)))) else (to + ((((yL + (3 : Int64)) / (4 : Int64)) - ((yL + (99 : Int64)) / (100 : Int64))) + ((yL + (399 : Int64)) / (400 : Int64))))) := ⟨_, rfl⟩
 have G8 : ∀ t, Steps p.tables e below (T2.setTop (mkF m 90 #[rv r0, .val (.long yL), .second, .val (.long mL), .second, .val (.long j7), .second] [])) t → Steps p.tables e below (s₁.setTop (entryFrame m #[(.ref r0)] 7)) t := by
  intro t kt
  have G9 : ∀ t, Steps p.tables e below (T2.setTop (mkF m 28 #[rv r0, .val (.long yL), .second, .val (.long mL), .second, .val (.long to), .second] [(.int (lcmpW yL (0 : Int64)))])) t → Steps p.tables e below (s₁.setTop (entryFrame m #[(.ref r0)] 7)) t := by
   intro t kt
   refine G6 _ ?_
   refine XS.lloadN X2.here hx rfl (hb hby d32_25) rfl ?_
   refine XS.lconst X2.here hx rfl (hb hby d32_26) ?_
   refine XS.lcmp X2.here hx rfl (hb hby d32_27) rfl ?_
   exact kt
  by_cases hc28_10 : yL < (0 : Int64)
  ·skip
   rw [show j7 = (to - (((yL / (-4 : Int64)) - (yL / (-100 : Int64))) + (yL / (-400 : Int64)))) from by rw [hj7, if_pos hc28_10]] at kt
   refine G9 _ ?_
   refine XS.ifYes X2.here hx rfl (pc0 := 28) (pc' := 68) rfl (hb hby d32_28) rfl ((if0 _ _).trans (tlt ((lw_lt _ _).mpr hc28_10)).1) (by decide) (by decide) ?_
   show Steps p.tables e below (T2.setTop (mkF m 68 #[rv r0, .val (.long yL), .second, .val (.long mL), .second, .val (.long to), .second] [])) _
   refine XS.lload X2.here hx rfl (hb hby d32_68) rfl ?_
   refine XS.lloadN X2.here hx rfl (hb hby d32_70) rfl ?_
   refine X2.ldc2Long hx hown (mvT hZ (hq hw 280 rfl)) (g := (mkF m 71 #[rv r0, .val (.long yL), .second, .val (.long mL), .second, .val (.long to), .second] [(.long yL), (.long to)])) rfl (hb hby d32_71) _ ?_
   refine XS.ldiv X2.here hx rfl (hb hby d32_74) rfl (by decide) ?_
   refine XS.lloadN X2.here hx rfl (hb hby d32_75) rfl ?_
   refine X2.ldc2Long hx hown (mvT hZ (hq hw 281 rfl)) (g := (mkF m 76 #[rv r0, .val (.long yL), .second, .val (.long mL), .second, .val (.long to), .second] [(.long yL), (.long (yL / (-4 : Int64))), (.long to)])) rfl (hb hby d32_76) _ ?_
   refine XS.ldiv X2.here hx rfl (hb hby d32_79) rfl (by decide) ?_
   refine XS.lsub X2.here hx rfl (hb hby d32_80) rfl ?_
   refine XS.lloadN X2.here hx rfl (hb hby d32_81) rfl ?_
   refine X2.ldc2Long hx hown (mvT hZ (hq hw 282 rfl)) (g := (mkF m 82 #[rv r0, .val (.long yL), .second, .val (.long mL), .second, .val (.long to), .second] [(.long yL), (.long ((yL / (-4 : Int64)) - (yL / (-100 : Int64)))), (.long to)])) rfl (hb hby d32_82) _ ?_
   refine XS.ldiv X2.here hx rfl (hb hby d32_85) rfl (by decide) ?_
   refine XS.ladd X2.here hx rfl (hb hby d32_86) rfl ?_
   refine XS.lsub X2.here hx rfl (hb hby d32_87) rfl ?_
   refine XS.lstore X2.here hx rfl (hb hby d32_88) rfl (l' := #[rv r0, .val (.long yL), .second, .val (.long mL), .second, .val (.long (to - (((yL / (-4 : Int64)) - (yL / (-100 : Int64))) + (yL / (-400 : Int64))))), .second]) rfl ?_
   exact kt
  ·skip
   rw [show j7 = (to + ((((yL + (3 : Int64)) / (4 : Int64)) - ((yL + (99 : Int64)) / (100 : Int64))) + ((yL + (399 : Int64)) / (400 : Int64)))) from by rw [hj7, if_neg hc28_10]] at kt
   refine G9 _ ?_
   refine XS.ifNo X2.here hx rfl (hb hby d32_28) rfl ((if0 _ _).trans (flt (fun q => hc28_10 ((lw_lt _ _).mp q))).1) ?_
   show Steps p.tables e below (T2.setTop (mkF m 31 #[rv r0, .val (.long yL), .second, .val (.long mL), .second, .val (.long to), .second] [])) _
   refine XS.lload X2.here hx rfl (hb hby d32_31) rfl ?_
   refine XS.lloadN X2.here hx rfl (hb hby d32_33) rfl ?_
   refine X2.ldc2Long hx hown (mvT hZ (hq hw 238 rfl)) (g := (mkF m 34 #[rv r0, .val (.long yL), .second, .val (.long mL), .second, .val (.long to), .second] [(.long yL), (.long to)])) rfl (hb hby d32_34) _ ?_
   refine XS.ladd X2.here hx rfl (hb hby d32_37) rfl ?_
   refine X2.ldc2Long hx hown (mvT hZ (hq hw 151 rfl)) (g := (mkF m 38 #[rv r0, .val (.long yL), .second, .val (.long mL), .second, .val (.long to), .second] [(.long (yL + (3 : Int64))), (.long to)])) rfl (hb hby d32_38) _ ?_
   refine XS.ldiv X2.here hx rfl (hb hby d32_41) rfl (by decide) ?_
   refine XS.lloadN X2.here hx rfl (hb hby d32_42) rfl ?_
   refine X2.ldc2Long hx hown (mvT hZ (hq hw 239 rfl)) (g := (mkF m 43 #[rv r0, .val (.long yL), .second, .val (.long mL), .second, .val (.long to), .second] [(.long yL), (.long ((yL + (3 : Int64)) / (4 : Int64))), (.long to)])) rfl (hb hby d32_43) _ ?_
   refine XS.ladd X2.here hx rfl (hb hby d32_46) rfl ?_
   refine X2.ldc2Long hx hown (mvT hZ (hq hw 152 rfl)) (g := (mkF m 47 #[rv r0, .val (.long yL), .second, .val (.long mL), .second, .val (.long to), .second] [(.long (yL + (99 : Int64))), (.long ((yL + (3 : Int64)) / (4 : Int64))), (.long to)])) rfl (hb hby d32_47) _ ?_
   refine XS.ldiv X2.here hx rfl (hb hby d32_50) rfl (by decide) ?_
   refine XS.lsub X2.here hx rfl (hb hby d32_51) rfl ?_
   refine XS.lloadN X2.here hx rfl (hb hby d32_52) rfl ?_
   refine X2.ldc2Long hx hown (mvT hZ (hq hw 240 rfl)) (g := (mkF m 53 #[rv r0, .val (.long yL), .second, .val (.long mL), .second, .val (.long to), .second] [(.long yL), (.long (((yL + (3 : Int64)) / (4 : Int64)) - ((yL + (99 : Int64)) / (100 : Int64)))), (.long to)])) rfl (hb hby d32_53) _ ?_
   refine XS.ladd X2.here hx rfl (hb hby d32_56) rfl ?_
   refine X2.ldc2Long hx hown (mvT hZ (hq hw 147 rfl)) (g := (mkF m 57 #[rv r0, .val (.long yL), .second, .val (.long mL), .second, .val (.long to), .second] [(.long (yL + (399 : Int64))), (.long (((yL + (3 : Int64)) / (4 : Int64)) - ((yL + (99 : Int64)) / (100 : Int64)))), (.long to)])) rfl (hb hby d32_57) _ ?_
   refine XS.ldiv X2.here hx rfl (hb hby d32_60) rfl (by decide) ?_
   refine XS.ladd X2.here hx rfl (hb hby d32_61) rfl ?_
   refine XS.ladd X2.here hx rfl (hb hby d32_62) rfl ?_
   refine XS.lstore X2.here hx rfl (hb hby d32_63) rfl (l' := #[rv r0, .val (.long yL), .second, .val (.long mL), .second, .val (.long (to + ((((yL + (3 : Int64)) / (4 : Int64)) - ((yL + (99 : Int64)) / (100 : Int64))) + ((yL + (399 : Int64)) / (400 : Int64))))), .second]) rfl ?_
   show Steps p.tables e below (T2.setTop (mkF m 65 #[rv r0, .val (.long yL), .second, .val (.long mL), .second, .val (.long (to + ((((yL + (3 : Int64)) / (4 : Int64)) - ((yL + (99 : Int64)) / (100 : Int64))) + ((yL + (399 : Int64)) / (400 : Int64))))), .second] [])) _
   refine XS.goto X2.here hx rfl (pc0 := 65) (pc' := 90) rfl (hb hby d32_65) (by decide) (by decide) ?_
   exact kt
 have HT := own_t1 (own_yb DA) hyL hto hj7
 obtain ⟨T11, X11, e11, st11⟩ := getF X2 hx hZ hown (host := "") (Or.inl (hq hw 164 rfl)) Via.refl e2 FdA (g := (mkF m 111 #[rv r0, .val (.long yL), .second, .val (.long mL), .second, .val (.long (j7 + ((((367 : Int64) * mL) - (362 : Int64)) / (12 : Int64)))), .second] [(.ref r0), (.long (j7 + ((((367 : Int64) * mL) - (362 : Int64)) / (12 : Int64))))])) rfl rfl (hb hby d32_111)
 have G12 : ∀ t, Steps p.tables e below (T11.setTop (mkF m 120 #[rv r0, .val (.long yL), .second, .val (.long mL), .second, .val (.long ((j7 + ((((367 : Int64) * mL) - (362 : Int64)) / (12 : Int64))) + ((dA - (1 : Int32)).toInt64))), .second] [])) t → Steps p.tables e below (s₁.setTop (entryFrame m #[(.ref r0)] 7)) t := by
  intro t kt
  refine G8 _ ?_
  refine XS.lload X2.here hx rfl (hb hby d32_90) rfl ?_
  refine X2.ldc2Long hx hown (mvT hZ (hq hw 241 rfl)) (g := (mkF m 92 #[rv r0, .val (.long yL), .second, .val (.long mL), .second, .val (.long j7), .second] [(.long j7)])) rfl (hb hby d32_92) _ ?_
  refine XS.lloadN X2.here hx rfl (hb hby d32_95) rfl ?_
  show Steps p.tables e below (T2.setTop (mkF m 96 #[rv r0, .val (.long yL), .second, .val (.long mL), .second, .val (.long j7), .second] [(.long mL), (.long (367 : Int64)), (.long j7)])) _
  refine XS.lmul X2.here hx rfl (hb hby d32_96) rfl ?_
  refine X2.ldc2Long hx hown (mvT hZ (hq hw 242 rfl)) (g := (mkF m 97 #[rv r0, .val (.long yL), .second, .val (.long mL), .second, .val (.long j7), .second] [(.long ((367 : Int64) * mL)), (.long j7)])) rfl (hb hby d32_97) _ ?_
  refine XS.lsub X2.here hx rfl (hb hby d32_100) rfl ?_
  refine X2.ldc2Long hx hown (mvT hZ (hq hw 243 rfl)) (g := (mkF m 101 #[rv r0, .val (.long yL), .second, .val (.long mL), .second, .val (.long j7), .second] [(.long (((367 : Int64) * mL) - (362 : Int64))), (.long j7)])) rfl (hb hby d32_101) _ ?_
  refine XS.ldiv X2.here hx rfl (hb hby d32_104) rfl (by decide) ?_
  refine XS.ladd X2.here hx rfl (hb hby d32_105) rfl ?_
  refine XS.lstore X2.here hx rfl (hb hby d32_106) rfl (l' := #[rv r0, .val (.long yL), .second, .val (.long mL), .second, .val (.long (j7 + ((((367 : Int64) * mL) - (362 : Int64)) / (12 : Int64)))), .second]) rfl ?_
  refine XS.lload X2.here hx rfl (hb hby d32_108) rfl ?_
  refine XS.aloadN X2.here hx rfl (hb hby d32_110) rfl rfl ?_
  refine st11 _ ?_
  refine XS.iconst X11.here hx rfl (hb hby d32_114) ?_
  refine XS.isub X11.here hx rfl (hb hby d32_115) rfl ?_
  refine XS.i2l X11.here hx rfl (hb hby d32_116) rfl ?_
  refine XS.ladd X11.here hx rfl (hb hby d32_117) rfl ?_
  refine XS.lstore X11.here hx rfl (hb hby d32_118) rfl (l' := #[rv r0, .val (.long yL), .second, .val (.long mL), .second, .val (.long ((j7 + ((((367 : Int64) * mL) - (362 : Int64)) / (12 : Int64))) + ((dA - (1 : Int32)).toInt64))), .second]) rfl ?_
  exact kt
 obtain ⟨tq, htq⟩ : ∃ z : Int64, z = ((j7 + ((((367 : Int64) * mL) - (362 : Int64)) / (12 : Int64))) + ((dA - (1 : Int32)).toInt64)) := ⟨_, rfl⟩
 have G13 : ∀ t, Steps p.tables e below (T11.setTop (mkF m 120 #[rv r0, .val (.long yL), .second, .val (.long mL), .second, .val (.long tq), .second] [])) t → Steps p.tables e below (s₁.setTop (entryFrame m #[(.ref r0)] 7)) t := by
  intro t kt
  rw [htq] at kt
  exact G12 t kt
 have HU := own_t2 DA hmL HT htq
 have G14 : ∀ t, Steps p.tables e below (T11.setTop (mkF m 125 #[rv r0, .val (.long yL), .second, .val (.long mL), .second, .val (.long tq), .second] [(.int (lcmpW mL (2 : Int64)))])) t → Steps p.tables e below (s₁.setTop (entryFrame m #[(.ref r0)] 7)) t := by
  intro t kt
  refine G13 _ ?_
  refine XS.lloadN X11.here hx rfl (hb hby d32_120) rfl ?_
  refine X11.ldc2Long hx hown (mvT hZ (hq hw 244 rfl)) (g := (mkF m 121 #[rv r0, .val (.long yL), .second, .val (.long mL), .second, .val (.long tq), .second] [(.long mL)])) rfl (hb hby d32_121) _ ?_
  refine XS.lcmp X11.here hx rfl (hb hby d32_124) rfl ?_
  exact kt
 by_cases hc125_15 : (2 : Int64) < mL
 ·skip
  obtain ⟨cq16, kq16, q16a, q16b, q16c⟩ := isOf hZ e11 ExA
  obtain ⟨_, _, ⟨T16, L16, k16, n16⟩, -, X16, ⟨Lc16, hQ16, l16, y16, z16⟩, st16⟩ := X11.virtualBack hx (y := (⟨"java/time/LocalDate", "isLeapYear", "()Z"⟩ : MethodName)) (z := (⟨"java/time/LocalDate", "isLeapYear", "()Z"⟩ : MethodName)) hown (mvT hZ (hq hw 283 rfl)) (mvT hZ (hq hw 284 rfl)) (notFace_of_selects (args := #[]) (mvT hZ (hq hw 286 rfl))) (mvT hZ (hq hw 286 rfl)) (mvT hZ (hq hw 285 rfl)) (by decide) (backOf (W := 0) (rm39 l Z a0 hw [] r0 eN eA eC ps crr ads sw oe efd rfd eyr ryr bt bf ic ksw yA h0 n0 Z0 O0 FyA SS ) hZ (hq hw 287 rfl) (hq hw 104 rfl) (by decide) (by decide)) q16a q16c (g := (mkF m 135 #[rv r0, .val (.long yL), .second, .val (.long mL), .second, .val (.long (tq - (1 : Int64))), .second] [(.ref r0)])) rfl (by rw [hml]; rfl) (Steps.refl _) (argsL := []) (rest := []) (lenOf pd_6 rfl) rfl (by show 2 * 0 + _ ≤ _; exact Nat.le_of_eq rfl) (hb hby d32_135) (fun _ _ => ⟨rfl, e11, (by decide : 0 + 0 ≤ _), (by decide : 0 + 0 ≤ _)⟩)
  dsimp only [Pt.U, Pt.locs, Pt.cells, Pt.slots] at X16 l16 y16 z16 st16 hQ16
  subst l16 y16 z16
  obtain ⟨rfl, N16q, eh16⟩ := hQ16
  have N16 := Fr.app N0 N16q
  have G17 : ∀ t, Steps p.tables e below (T16.setTop (mkF m 138 #[rv r0, .val (.long yL), .second, .val (.long mL), .second, .val (.long (tq - (1 : Int64))), .second] [(.int (fly (yA.toInt64)))])) t → Steps p.tables e below (s₁.setTop (entryFrame m #[(.ref r0)] 7)) t := by
   intro t kt
   refine G14 _ ?_
   refine XS.ifNo X11.here hx rfl (hb hby d32_125) rfl ((if0 _ _).trans (tlt ((lw_gt _ _).mpr hc125_15)).2.2.2) ?_
   refine XS.lload X11.here hx rfl (hb hby d32_128) rfl ?_
   refine XS.lconst X11.here hx rfl (hb hby d32_130) ?_
   show Steps p.tables e below (T11.setTop (mkF m 131 #[rv r0, .val (.long yL), .second, .val (.long mL), .second, .val (.long tq), .second] [(.long (1 : Int64)), (.long tq)])) _
   refine XS.lsub X11.here hx rfl (hb hby d32_131) rfl ?_
   refine XS.lstore X11.here hx rfl (hb hby d32_132) rfl (l' := #[rv r0, .val (.long yL), .second, .val (.long mL), .second, .val (.long (tq - (1 : Int64))), .second]) rfl ?_
   refine XS.aloadN X11.here hx rfl (hb hby d32_134) rfl rfl ?_
   refine st16.trans ?_
   exact kt
  by_cases hc138_18 : (fly (yA.toInt64)) = (0 : Int32)
  ·skip
   obtain ⟨fs, hr, hrun, hended, hW, hsame⟩ := X16.leave (v := some (.long (((tq - (1 : Int64)) - (1 : Int64)) - (719528 : Int64)))) (fun h => by rw [Bd.returns] at h; cases h)
   refine ⟨_, _, G17 _ ?_, hrun, hended, _, _, rfl, ?_, ⟨_, rfl⟩, hW, hsame.mono (by decide) (by decide)⟩
   ·skip
    refine XS.ifNo X16.here hx rfl (hb hby d32_138) rfl ((if0 _ _).trans (teq hc138_18).2) ?_
    refine XS.lload X16.here hx rfl (hb hby d32_141) rfl ?_
    refine XS.lconst X16.here hx rfl (hb hby d32_143) ?_
    refine XS.lsub X16.here hx rfl (hb hby d32_144) rfl ?_
    refine XS.lstore X16.here hx rfl (hb hby d32_145) rfl (l' := #[rv r0, .val (.long yL), .second, .val (.long mL), .second, .val (.long ((tq - (1 : Int64)) - (1 : Int64))), .second]) rfl ?_
    refine XS.lload X16.here hx rfl (hb hby d32_147) rfl ?_
    refine X16.ldc2Long hx hown (mvT hZ (hq hw 145 rfl)) (g := (mkF m 149 #[rv r0, .val (.long yL), .second, .val (.long mL), .second, .val (.long ((tq - (1 : Int64)) - (1 : Int64))), .second] [(.long ((tq - (1 : Int64)) - (1 : Int64)))])) rfl (hb hby d32_149) _ ?_
    refine XS.lsub X16.here hx rfl (hb hby d32_152) rfl ?_
    exact retOut X16 hx Bd.returns rfl (Or.inr (Or.inl ⟨rfl, rfl, _, rfl⟩)) (hb hby d32_153) hr
   ·show Q32 Z r0 eN eA eC ps crr ads sw oe efd rfd eyr ryr bt bf ic ksw yA mA dA zA h0 n0 _ T16.heap _
    rw [eh16]
    exact ⟨_, rfl, HU.2.1 hc125_15 hc138_18, N16, rfl⟩
  ·skip
   obtain ⟨fs, hr, hrun, hended, hW, hsame⟩ := X16.leave (v := some (.long ((tq - (1 : Int64)) - (719528 : Int64)))) (fun h => by rw [Bd.returns] at h; cases h)
   refine ⟨_, _, G17 _ ?_, hrun, hended, _, _, rfl, ?_, ⟨_, rfl⟩, hW, hsame.mono (by decide) (by decide)⟩
   ·skip
    refine XS.ifYes X16.here hx rfl (pc0 := 138) (pc' := 147) rfl (hb hby d32_138) rfl ((if0 _ _).trans (feq hc138_18).2) (by decide) (by decide) ?_
    refine XS.lload X16.here hx rfl (hb hby d32_147) rfl ?_
    refine X16.ldc2Long hx hown (mvT hZ (hq hw 145 rfl)) (g := (mkF m 149 #[rv r0, .val (.long yL), .second, .val (.long mL), .second, .val (.long (tq - (1 : Int64))), .second] [(.long (tq - (1 : Int64)))])) rfl (hb hby d32_149) _ ?_
    refine XS.lsub X16.here hx rfl (hb hby d32_152) rfl ?_
    exact retOut X16 hx Bd.returns rfl (Or.inr (Or.inl ⟨rfl, rfl, _, rfl⟩)) (hb hby d32_153) hr
   ·show Q32 Z r0 eN eA eC ps crr ads sw oe efd rfd eyr ryr bt bf ic ksw yA mA dA zA h0 n0 _ T16.heap _
    rw [eh16]
    exact ⟨_, rfl, HU.2.2 hc125_15 hc138_18, N16, rfl⟩
 ·skip
  obtain ⟨fs, hr, hrun, hended, hW, hsame⟩ := X11.leave (v := some (.long (tq - (719528 : Int64)))) (fun h => by rw [Bd.returns] at h; cases h)
  refine ⟨_, _, G14 _ ?_, hrun, hended, _, _, rfl, ?_, ⟨_, rfl⟩, hW, hsame.mono (by decide) (by decide)⟩
  ·skip
   refine XS.ifYes X11.here hx rfl (pc0 := 125) (pc' := 147) rfl (hb hby d32_125) rfl ((if0 _ _).trans (flt (fun q => hc125_15 ((lw_gt _ _).mp q))).2.2.2) (by decide) (by decide) ?_
   refine XS.lload X11.here hx rfl (hb hby d32_147) rfl ?_
   refine X11.ldc2Long hx hown (mvT hZ (hq hw 145 rfl)) (g := (mkF m 149 #[rv r0, .val (.long yL), .second, .val (.long mL), .second, .val (.long tq), .second] [(.long tq)])) rfl (hb hby d32_149) _ ?_
   show Steps p.tables e below (T11.setTop (mkF m 152 #[rv r0, .val (.long yL), .second, .val (.long mL), .second, .val (.long tq), .second] [(.long (719528 : Int64)), (.long tq)])) _
   refine XS.lsub X11.here hx rfl (hb hby d32_152) rfl ?_
   exact retOut X11 hx Bd.returns rfl (Or.inr (Or.inl ⟨rfl, rfl, _, rfl⟩)) (hb hby d32_153) hr
  ·show Q32 Z r0 eN eA eC ps crr ads sw oe efd rfd eyr ryr bt bf ic ksw yA mA dA zA h0 n0 _ T11.heap _
   rw [e11]
   exact ⟨_, rfl, HU.1 hc125_15, N0, rfl⟩
theorem d35_0 : decode jdk_2323_method_72_code 0 = .ok (.aload_n 1, 1) := by decide +kernel
theorem d35_1 : decode jdk_2323_method_72_code 1 = .ok (.instanceof 1, 3) := by decide +kernel
theorem d35_4 : decode jdk_2323_method_72_code 4 = .ok (.ifCond .eq 20, 3) := by decide +kernel
theorem d35_7 : decode jdk_2323_method_72_code 7 = .ok (.aload_n 0, 1) := by decide +kernel
theorem d35_8 : decode jdk_2323_method_72_code 8 = .ok (.aload_n 1, 1) := by decide +kernel
theorem d35_9 : decode jdk_2323_method_72_code 9 = .ok (.checkcast 1, 3) := by decide +kernel
theorem d35_12 : decode jdk_2323_method_72_code 12 = .ok (.invokevirtual 679, 3) := by decide +kernel
theorem pd_7 : parseMethodDescriptor "(Ljava/time/LocalDate;)I" = some ⟨[(.object "java/time/LocalDate")], some .int⟩ := by decide +kernel
theorem d35_15 : decode jdk_2323_method_72_code 15 = .ok (.ifCond .ge 7, 3) := by decide +kernel
theorem d35_18 : decode jdk_2323_method_72_code 18 = .ok (.iconst 1, 1) := by decide +kernel
theorem d35_19 : decode jdk_2323_method_72_code 19 = .ok (.goto 4, 3) := by decide +kernel
theorem d35_23 : decode jdk_2323_method_72_code 23 = .ok (.ireturn, 1) := by decide +kernel
theorem d35_22 : decode jdk_2323_method_72_code 22 = .ok (.iconst 0, 1) := by decide +kernel
def Q35 (Z : State) (r0 : Addr) (r1 : Addr) (yA mA dA yB mB dB : Int32) (zA zB : Int) (h0 : Heap) (n0 : Nat) (v : Option Value) (h : Heap) (L : List Loc) : Prop := v = some (.int (own_lt zA zB)) ∧ Fr n0 L ∧ h = h0
theorem ef_rm35 (m : MethodId) (x0 : Addr) (x1 : Addr) : entryFrame m #[(.ref x0), (.ref x1)] 2 = mkF m 0 #[.val (.ref x0), .val (.ref x1)] [] := by first | (simp [entryFrame, mkF, argsToLocals, Value.category]; done) | rfl
set_option maxRecDepth 65536 in
set_option maxHeartbeats 40000000 in
theorem rm35 (l : Launch) (Z : State) (a0 : Array Value) (hw : ∀ d ∈ tables_1, d.before a0 Z = true) (ws : List Jvm.Cond) (r0 : Addr) (r1 : Addr) (yA mA dA yB mB dB : Int32) (zA zB : Int) (h0 : Heap) (n0 : Nat) (Z0 : n0 ≤ h0.size) (ExA : Exa Z h0 r0 "java/time/LocalDate") (FyA : Fld Z h0 r0 "java/time/LocalDate" "year" "I" (.int yA)) (FmA : Fld Z h0 r0 "java/time/LocalDate" "month" "S" (.int mA)) (FdA : Fld Z h0 r0 "java/time/LocalDate" "day" "S" (.int dA)) (ExB : Exa Z h0 r1 "java/time/LocalDate") (FyB : Fld Z h0 r1 "java/time/LocalDate" "year" "I" (.int yB)) (FmB : Fld Z h0 r1 "java/time/LocalDate" "month" "S" (.int mB)) (FdB : Fld Z h0 r1 "java/time/LocalDate" "day" "S" (.int dB)) (DA : own_dt yA mA dA zA) (DB : own_dt yB mB dB zB) :
  MetFree l (⟨"java/time/LocalDate", "isBefore", "(Ljava/time/chrono/ChronoLocalDate;)Z"⟩ : MethodName) (head1 (Jvm.Cond.code (⟨"java/time/LocalDate", "isBefore", "(Ljava/time/chrono/ChronoLocalDate;)Z"⟩ : MethodName) jdk_2323_method_72_code 2 (some .boolean) :: ws) ({ frames := 1, cells := 0, slots := 0, locals := 14 } : Room)) (fun a U => a = #[(.ref r0), (.ref r1)] ∧ Z.Warmed39 U.vm ∧ U.heap = h0) (fun _ _ _ _ _ => True) (fun _ U o U' => ∃ v L, o = .returned v ∧ Q35 Z r0 r1 yA mA dA yB mB dB zA zB h0 n0 v U'.heap L ∧ FrameEnd U o U' L ({ frames := 1, cells := 0, slots := 0, locals := 14 } : Room).cells ({ frames := 1, cells := 0, slots := 0, locals := 14 } : Room).slots) := by
 refine MetFree.of_bodySF (plainFor_of_name pnc_java_time_LocalDate) hisR ?_
 intro p e s m args below meth c s₁ Bd hml0 hP hK
 obtain ⟨rfl, hZ, hh⟩ := hP
 have hx := Bd.exec
 have hby := Bd.bytes
 have hml : c.maxLocals = 2 := hml0
 have hown : s.vm.findClass "java/time/LocalDate" = some m.cls := findClass_of_methodNamed Bd.named
 have hnm := (name_of_methodNamed Bd.named Bd.method).1
 have X0 : Stand p l e ({ frames := 1, cells := 0, slots := 0, locals := 14 } : Room) s m #[(.ref r0), (.ref r1)] below meth c s₁ [] 0 0 := Stand.of_body Bd
 have e0 : s₁.heap = h0 := by rw [← hh, Bd.state]; rfl
 have N0 := Fr.nil n0
 have kp0 : Keep h0 h0 [] := Keep.refl _ _
 have G0 : ∀ t, Steps p.tables e below (s₁.setTop (mkF m 0 #[rv r0, rv r1] [])) t → Steps p.tables e below (s₁.setTop (entryFrame m #[(.ref r0), (.ref r1)] 2)) t := fun t k => castTop (ef_rm35 m r0 r1) k
 obtain ⟨T1, X1, e1, st1⟩ := instY X0 hx hZ hown (hq hw 153 rfl) e0 (Ins.self ExB) (g := (mkF m 1 #[rv r0, rv r1] [(.ref r1)])) rfl rfl (hb hby d35_1)
 have G2 : ∀ t, Steps p.tables e below (T1.setTop (mkF m 4 #[rv r0, rv r1] [(.int (1 : Int32))])) t → Steps p.tables e below (s₁.setTop (entryFrame m #[(.ref r0), (.ref r1)] 2)) t := by
  intro t kt
  refine G0 _ ?_
  refine XS.aloadN X0.here hx rfl (hb hby d35_0) rfl rfl ?_
  refine st1 _ ?_
  exact kt
 obtain ⟨T3, X3, e3, st3⟩ := castY X1 hx hZ hown (hq hw 153 rfl) e1 (Ins.self ExB) (g := (mkF m 9 #[rv r0, rv r1] [(.ref r1), (.ref r0)])) rfl rfl (hb hby d35_9)
 obtain ⟨cq4, kq4, q4a, q4b, q4c⟩ := isOf hZ e3 ExA
 obtain ⟨_, _, ⟨T4, L4, k4, n4⟩, -, X4, ⟨Lc4, hQ4, l4, y4, z4⟩, st4⟩ := X3.virtualBack hx (y := (⟨"java/time/LocalDate", "compareTo0", "(Ljava/time/LocalDate;)I"⟩ : MethodName)) (z := (⟨"java/time/LocalDate", "compareTo0", "(Ljava/time/LocalDate;)I"⟩ : MethodName)) hown (mvT hZ (hq hw 265 rfl)) (mvT hZ (hq hw 266 rfl)) (notFace_of_selects (args := #[]) (mvT hZ (hq hw 268 rfl))) (mvT hZ (hq hw 268 rfl)) (mvT hZ (hq hw 267 rfl)) (by decide) (backOf (W := 0) (rm36 l Z a0 hw [] r0 r1 yA mA dA yB mB dB h0 n0 Z0 FyA FmA FdA FyB FmB FdB ) hZ (hq hw 269 rfl) (hq hw 104 rfl) (by decide) (by decide)) q4a q4c (g := (mkF m 12 #[rv r0, rv r1] [(.ref r1), (.ref r0)])) rfl (by rw [hml]; rfl) (Steps.refl _) (argsL := [(.ref r1)]) (rest := []) (lenOf pd_7 rfl) rfl (by show 2 * 0 + _ ≤ _; exact Nat.le_of_eq rfl) (hb hby d35_12) (fun _ _ => ⟨rfl, e3, (by decide : 0 + 0 ≤ _), (by decide : 0 + 0 ≤ _)⟩)
 dsimp only [Pt.U, Pt.locs, Pt.cells, Pt.slots] at X4 l4 y4 z4 st4 hQ4
 subst l4 y4 z4
 obtain ⟨rfl, N4q, eh4⟩ := hQ4
 have N4 := Fr.app N0 N4q
 have G5 : ∀ t, Steps p.tables e below (T4.setTop (mkF m 15 #[rv r0, rv r1] [(.int (fcp yA mA dA yB mB dB))])) t → Steps p.tables e below (s₁.setTop (entryFrame m #[(.ref r0), (.ref r1)] 2)) t := by
  intro t kt
  refine G2 _ ?_
  refine XS.ifNo X1.here hx rfl (hb hby d35_4) rfl ((if0 _ _).trans (feq (by decide)).1) ?_
  refine XS.aloadN X1.here hx rfl (hb hby d35_7) rfl rfl ?_
  refine XS.aloadN X1.here hx rfl (hb hby d35_8) rfl rfl ?_
  refine st3 _ ?_
  refine st4.trans ?_
  exact kt
 by_cases hc15_6 : (fcp yA mA dA yB mB dB) < (0 : Int32)
 ·skip
  obtain ⟨fs, hr, hrun, hended, hW, hsame⟩ := X4.leave (v := some (.int (1 : Int32))) (fun h => by rw [Bd.returns] at h; cases h)
  refine ⟨_, _, G5 _ ?_, hrun, hended, _, _, rfl, ?_, ⟨_, rfl⟩, hW, hsame.mono (by decide) (by decide)⟩
  ·skip
   refine XS.ifNo X4.here hx rfl (hb hby d35_15) rfl ((if0 _ _).trans (tlt hc15_6).2.1) ?_
   refine XS.iconst X4.here hx rfl (hb hby d35_18) ?_
   refine XS.goto X4.here hx rfl (pc0 := 19) (pc' := 23) rfl (hb hby d35_19) (by decide) (by decide) ?_
   exact retN X4 hx (t := .boolean) Bd.returns (by simp) (hb hby d35_23) hr
  ·show Q35 Z r0 r1 yA mA dA yB mB dB zA zB h0 n0 _ T4.heap _
   rw [eh4]
   exact ⟨by rw [own_lt, if_pos ((own_cmp DA DB).mp hc15_6)], N4, rfl⟩
 ·skip
  obtain ⟨fs, hr, hrun, hended, hW, hsame⟩ := X4.leave (v := some (.int (0 : Int32))) (fun h => by rw [Bd.returns] at h; cases h)
  refine ⟨_, _, G5 _ ?_, hrun, hended, _, _, rfl, ?_, ⟨_, rfl⟩, hW, hsame.mono (by decide) (by decide)⟩
  ·skip
   refine XS.ifYes X4.here hx rfl (pc0 := 15) (pc' := 22) rfl (hb hby d35_15) rfl ((if0 _ _).trans (flt hc15_6).2.1) (by decide) (by decide) ?_
   refine XS.iconst X4.here hx rfl (hb hby d35_22) ?_
   exact retN X4 hx (t := .boolean) Bd.returns (by simp) (hb hby d35_23) hr
  ·show Q35 Z r0 r1 yA mA dA yB mB dB zA zB h0 n0 _ T4.heap _
   rw [eh4]
   exact ⟨by rw [own_lt, if_neg (fun q => hc15_6 ((own_cmp DA DB).mpr q))], N4, rfl⟩
theorem d42_0 : decode jdk_2323_method_31_code 0 = .ok (.aload_n 0, 1) := by decide +kernel
theorem d42_1 : decode jdk_2323_method_31_code 1 = .ok (.getfield 250, 3) := by decide +kernel
theorem d42_4 : decode jdk_2323_method_31_code 4 = .ok (.tableswitch 78 2 11 #[56, 78, 73, 78, 73, 78, 78, 73, 78, 73], 56) := by decide +kernel
theorem d42_82 : decode jdk_2323_method_31_code 82 = .ok (.bipush 31, 2) := by decide +kernel
theorem d42_84 : decode jdk_2323_method_31_code 84 = .ok (.ireturn, 1) := by decide +kernel
theorem d42_60 : decode jdk_2323_method_31_code 60 = .ok (.aload_n 0, 1) := by decide +kernel
theorem d42_61 : decode jdk_2323_method_31_code 61 = .ok (.invokevirtual 297, 3) := by decide +kernel
theorem d42_64 : decode jdk_2323_method_31_code 64 = .ok (.ifCond .eq 8, 3) := by decide +kernel
theorem d42_72 : decode jdk_2323_method_31_code 72 = .ok (.bipush 28, 2) := by decide +kernel
theorem d42_74 : decode jdk_2323_method_31_code 74 = .ok (.goto 10, 3) := by decide +kernel
theorem d42_67 : decode jdk_2323_method_31_code 67 = .ok (.bipush 29, 2) := by decide +kernel
theorem d42_69 : decode jdk_2323_method_31_code 69 = .ok (.goto 15, 3) := by decide +kernel
theorem d42_77 : decode jdk_2323_method_31_code 77 = .ok (.bipush 30, 2) := by decide +kernel
theorem d42_79 : decode jdk_2323_method_31_code 79 = .ok (.goto 5, 3) := by decide +kernel
def Q42 (Z : State) (r0 : Addr) (eN eA eC ps crr ads sw oe efd rfd eyr ryr bt bf ic : Addr) (ksw : ClassId) (yA mA dA : Int32) (zA : Int) (h0 : Heap) (n0 : Nat) (v : Option Value) (h : Heap) (L : List Loc) : Prop := ∃ r : Int32, v = some (.int r) ∧ r.toInt = own_L mA.toInt (own_leap yA.toInt) ∧ Fr n0 L ∧ h = h0
theorem ef_rm42 (m : MethodId) (x0 : Addr) : entryFrame m #[(.ref x0)] 1 = mkF m 0 #[.val (.ref x0)] [] := by first | (simp [entryFrame, mkF, argsToLocals, Value.category]; done) | rfl
set_option maxRecDepth 65536 in
set_option maxHeartbeats 40000000 in
theorem rm42 (l : Launch) (Z : State) (a0 : Array Value) (hw : ∀ d ∈ tables_1, d.before a0 Z = true) (ws : List Jvm.Cond) (r0 : Addr) (eN eA eC ps crr ads sw oe efd rfd eyr ryr bt bf ic : Addr) (ksw : ClassId) (yA mA dA : Int32) (zA : Int) (h0 : Heap) (n0 : Nat) (Z0 : n0 ≤ h0.size) (O0 : Old Z n0 h0) (ExA : Exa Z h0 r0 "java/time/LocalDate") (FyA : Fld Z h0 r0 "java/time/LocalDate" "year" "I" (.int yA)) (FmA : Fld Z h0 r0 "java/time/LocalDate" "month" "S" (.int mA)) (FdA : Fld Z h0 r0 "java/time/LocalDate" "day" "S" (.int dA)) (SS : Stw Z eN eA eC ps crr ads sw oe efd rfd eyr ryr bt bf ic ksw) (DA : own_dt yA mA dA zA) :
  MetFree l (⟨"java/time/LocalDate", "lengthOfMonth", "()I"⟩ : MethodName) (head1 (Jvm.Cond.code (⟨"java/time/LocalDate", "lengthOfMonth", "()I"⟩ : MethodName) jdk_2323_method_31_code 1 (some .int) :: ws) ({ frames := 2, cells := 0, slots := 0, locals := 26 } : Room)) (fun a U => a = #[(.ref r0)] ∧ Z.Warmed39 U.vm ∧ U.heap = h0) (fun _ _ _ _ _ => True) (fun _ U o U' => ∃ v L, o = .returned v ∧ Q42 Z r0 eN eA eC ps crr ads sw oe efd rfd eyr ryr bt bf ic ksw yA mA dA zA h0 n0 v U'.heap L ∧ FrameEnd U o U' L ({ frames := 2, cells := 0, slots := 0, locals := 26 } : Room).cells ({ frames := 2, cells := 0, slots := 0, locals := 26 } : Room).slots) := by
 refine MetFree.of_bodySF (plainFor_of_name pnc_java_time_LocalDate) hisR ?_
 intro p e s m args below meth c s₁ Bd hml0 hP hK
 obtain ⟨rfl, hZ, hh⟩ := hP
 have hx := Bd.exec
 have hby := Bd.bytes
 have hml : c.maxLocals = 1 := hml0
 have hown : s.vm.findClass "java/time/LocalDate" = some m.cls := findClass_of_methodNamed Bd.named
 have hnm := (name_of_methodNamed Bd.named Bd.method).1
 have X0 : Stand p l e ({ frames := 2, cells := 0, slots := 0, locals := 26 } : Room) s m #[(.ref r0)] below meth c s₁ [] 0 0 := Stand.of_body Bd
 have e0 : s₁.heap = h0 := by rw [← hh, Bd.state]; rfl
 have N0 := Fr.nil n0
 have kp0 : Keep h0 h0 [] := Keep.refl _ _
 have G0 : ∀ t, Steps p.tables e below (s₁.setTop (mkF m 0 #[rv r0] [])) t → Steps p.tables e below (s₁.setTop (entryFrame m #[(.ref r0)] 1)) t := fun t k => castTop (ef_rm42 m r0) k
 obtain ⟨T1, X1, e1, st1⟩ := getF X0 hx hZ hown (host := "") (Or.inl (hq hw 162 rfl)) Via.refl e0 FmA (g := (mkF m 1 #[rv r0] [(.ref r0)])) rfl rfl (hb hby d42_1)
 have G2 : ∀ t, Steps p.tables e below (T1.setTop (mkF m 4 #[rv r0] [(.int mA)])) t → Steps p.tables e below (s₁.setTop (entryFrame m #[(.ref r0)] 1)) t := by
  intro t kt
  refine G0 _ ?_
  refine XS.aloadN X0.here hx rfl (hb hby d42_0) rfl rfl ?_
  refine st1 _ ?_
  exact kt
 rcases own_m12 ⟨(own_dr DA).1, (own_dr DA).2.1⟩ with hM | hM | hM | hM | hM | hM | hM | hM | hM | hM | hM | hM
 ·skip
  have G3 : ∀ t, Steps p.tables e below (T1.setTop (mkF m 4 #[rv r0] [(.int (1 : Int32))])) t → Steps p.tables e below (s₁.setTop (entryFrame m #[(.ref r0)] 1)) t := fun t kt => G2 t (by rw [hM]; exact kt)
  obtain ⟨fs, hr, hrun, hended, hW, hsame⟩ := X1.leave (v := some (.int (31 : Int32))) (fun h => by rw [Bd.returns] at h; cases h)
  refine ⟨_, _, G3 _ ?_, hrun, hended, _, _, rfl, ?_, ⟨_, rfl⟩, hW, hsame.mono (by decide) (by decide)⟩
  ·skip
   refine XS.tswOut X1.here hx rfl (pc0 := 4) (pc' := 82) rfl (hb hby d42_4) rfl (by decide) (by decide) (by decide) ?_
   refine XS.bipush X1.here hx rfl (hb hby d42_82) ?_
   exact retI X1 hx Bd.returns (hb hby d42_84) hr
  ·show Q42 Z r0 eN eA eC ps crr ads sw oe efd rfd eyr ryr bt bf ic ksw yA mA dA zA h0 n0 _ T1.heap _
   rw [e1]
   exact ⟨_, rfl, own_lm.1 (by rw [hM]; decide), N0, rfl⟩
 ·skip
  have G4 : ∀ t, Steps p.tables e below (T1.setTop (mkF m 4 #[rv r0] [(.int (2 : Int32))])) t → Steps p.tables e below (s₁.setTop (entryFrame m #[(.ref r0)] 1)) t := fun t kt => G2 t (by rw [hM]; exact kt)
  obtain ⟨cq5, kq5, q5a, q5b, q5c⟩ := isOf hZ e1 ExA
  obtain ⟨_, _, ⟨T5, L5, k5, n5⟩, -, X5, ⟨Lc5, hQ5, l5, y5, z5⟩, st5⟩ := X1.virtualBack hx (y := (⟨"java/time/LocalDate", "isLeapYear", "()Z"⟩ : MethodName)) (z := (⟨"java/time/LocalDate", "isLeapYear", "()Z"⟩ : MethodName)) hown (mvT hZ (hq hw 283 rfl)) (mvT hZ (hq hw 284 rfl)) (notFace_of_selects (args := #[]) (mvT hZ (hq hw 286 rfl))) (mvT hZ (hq hw 286 rfl)) (mvT hZ (hq hw 285 rfl)) (by decide) (backOf (W := 0) (rm39 l Z a0 hw [] r0 eN eA eC ps crr ads sw oe efd rfd eyr ryr bt bf ic ksw yA h0 n0 Z0 O0 FyA SS ) hZ (hq hw 287 rfl) (hq hw 104 rfl) (by decide) (by decide)) q5a q5c (g := (mkF m 61 #[rv r0] [(.ref r0)])) rfl (by rw [hml]; rfl) (Steps.refl _) (argsL := []) (rest := []) (lenOf pd_6 rfl) rfl (by show 2 * 0 + _ ≤ _; exact Nat.le_of_eq rfl) (hb hby d42_61) (fun _ _ => ⟨rfl, e1, (by decide : 0 + 0 ≤ _), (by decide : 0 + 0 ≤ _)⟩)
  dsimp only [Pt.U, Pt.locs, Pt.cells, Pt.slots] at X5 l5 y5 z5 st5 hQ5
  subst l5 y5 z5
  obtain ⟨rfl, N5q, eh5⟩ := hQ5
  have N5 := Fr.app N0 N5q
  have G6 : ∀ t, Steps p.tables e below (T5.setTop (mkF m 64 #[rv r0] [(.int (fly (yA.toInt64)))])) t → Steps p.tables e below (s₁.setTop (entryFrame m #[(.ref r0)] 1)) t := by
   intro t kt
   refine G4 _ ?_
   refine XS.tswIn X1.here hx rfl (pc0 := 4) (pc' := 60) rfl (hb hby d42_4) rfl (by decide) (o := 56) (by decide) (by decide) (by decide) ?_
   refine XS.aloadN X1.here hx rfl (hb hby d42_60) rfl rfl ?_
   refine st5.trans ?_
   exact kt
  by_cases hc64_7 : (fly (yA.toInt64)) = (0 : Int32)
  ·skip
   obtain ⟨fs, hr, hrun, hended, hW, hsame⟩ := X5.leave (v := some (.int (28 : Int32))) (fun h => by rw [Bd.returns] at h; cases h)
   refine ⟨_, _, G6 _ ?_, hrun, hended, _, _, rfl, ?_, ⟨_, rfl⟩, hW, hsame.mono (by decide) (by decide)⟩
   ·skip
    refine XS.ifYes X5.here hx rfl (pc0 := 64) (pc' := 72) rfl (hb hby d42_64) rfl ((if0 _ _).trans (teq hc64_7).1) (by decide) (by decide) ?_
    refine XS.bipush X5.here hx rfl (hb hby d42_72) ?_
    refine XS.goto X5.here hx rfl (pc0 := 74) (pc' := 84) rfl (hb hby d42_74) (by decide) (by decide) ?_
    exact retI X5 hx Bd.returns (hb hby d42_84) hr
   ·show Q42 Z r0 eN eA eC ps crr ads sw oe efd rfd eyr ryr bt bf ic ksw yA mA dA zA h0 n0 _ T5.heap _
    rw [eh5]
    exact ⟨_, rfl, own_lm.2.2.1 hM hc64_7, N5, rfl⟩
  ·skip
   obtain ⟨fs, hr, hrun, hended, hW, hsame⟩ := X5.leave (v := some (.int (29 : Int32))) (fun h => by rw [Bd.returns] at h; cases h)
   refine ⟨_, _, G6 _ ?_, hrun, hended, _, _, rfl, ?_, ⟨_, rfl⟩, hW, hsame.mono (by decide) (by decide)⟩
   ·skip
    refine XS.ifNo X5.here hx rfl (hb hby d42_64) rfl ((if0 _ _).trans (feq hc64_7).1) ?_
    refine XS.bipush X5.here hx rfl (hb hby d42_67) ?_
    refine XS.goto X5.here hx rfl (pc0 := 69) (pc' := 84) rfl (hb hby d42_69) (by decide) (by decide) ?_
    exact retI X5 hx Bd.returns (hb hby d42_84) hr
   ·show Q42 Z r0 eN eA eC ps crr ads sw oe efd rfd eyr ryr bt bf ic ksw yA mA dA zA h0 n0 _ T5.heap _
    rw [eh5]
    exact ⟨_, rfl, own_lm.2.2.2 hM hc64_7, N5, rfl⟩
 ·skip
  have G8 : ∀ t, Steps p.tables e below (T1.setTop (mkF m 4 #[rv r0] [(.int (3 : Int32))])) t → Steps p.tables e below (s₁.setTop (entryFrame m #[(.ref r0)] 1)) t := fun t kt => G2 t (by rw [hM]; exact kt)
  obtain ⟨fs, hr, hrun, hended, hW, hsame⟩ := X1.leave (v := some (.int (31 : Int32))) (fun h => by rw [Bd.returns] at h; cases h)
  refine ⟨_, _, G8 _ ?_, hrun, hended, _, _, rfl, ?_, ⟨_, rfl⟩, hW, hsame.mono (by decide) (by decide)⟩
  ·skip
   refine XS.tswIn X1.here hx rfl (pc0 := 4) (pc' := 82) rfl (hb hby d42_4) rfl (by decide) (o := 78) (by decide) (by decide) (by decide) ?_
   refine XS.bipush X1.here hx rfl (hb hby d42_82) ?_
   exact retI X1 hx Bd.returns (hb hby d42_84) hr
  ·show Q42 Z r0 eN eA eC ps crr ads sw oe efd rfd eyr ryr bt bf ic ksw yA mA dA zA h0 n0 _ T1.heap _
   rw [e1]
   exact ⟨_, rfl, own_lm.1 (by rw [hM]; decide), N0, rfl⟩
 ·skip
  have G9 : ∀ t, Steps p.tables e below (T1.setTop (mkF m 4 #[rv r0] [(.int (4 : Int32))])) t → Steps p.tables e below (s₁.setTop (entryFrame m #[(.ref r0)] 1)) t := fun t kt => G2 t (by rw [hM]; exact kt)
  obtain ⟨fs, hr, hrun, hended, hW, hsame⟩ := X1.leave (v := some (.int (30 : Int32))) (fun h => by rw [Bd.returns] at h; cases h)
  refine ⟨_, _, G9 _ ?_, hrun, hended, _, _, rfl, ?_, ⟨_, rfl⟩, hW, hsame.mono (by decide) (by decide)⟩
  ·skip
   refine XS.tswIn X1.here hx rfl (pc0 := 4) (pc' := 77) rfl (hb hby d42_4) rfl (by decide) (o := 73) (by decide) (by decide) (by decide) ?_
   refine XS.bipush X1.here hx rfl (hb hby d42_77) ?_
   refine XS.goto X1.here hx rfl (pc0 := 79) (pc' := 84) rfl (hb hby d42_79) (by decide) (by decide) ?_
   exact retI X1 hx Bd.returns (hb hby d42_84) hr
  ·show Q42 Z r0 eN eA eC ps crr ads sw oe efd rfd eyr ryr bt bf ic ksw yA mA dA zA h0 n0 _ T1.heap _
   rw [e1]
   exact ⟨_, rfl, own_lm.2.1 (by rw [hM]; decide), N0, rfl⟩
 ·skip
  have G10 : ∀ t, Steps p.tables e below (T1.setTop (mkF m 4 #[rv r0] [(.int (5 : Int32))])) t → Steps p.tables e below (s₁.setTop (entryFrame m #[(.ref r0)] 1)) t := fun t kt => G2 t (by rw [hM]; exact kt)
  obtain ⟨fs, hr, hrun, hended, hW, hsame⟩ := X1.leave (v := some (.int (31 : Int32))) (fun h => by rw [Bd.returns] at h; cases h)
  refine ⟨_, _, G10 _ ?_, hrun, hended, _, _, rfl, ?_, ⟨_, rfl⟩, hW, hsame.mono (by decide) (by decide)⟩
  ·skip
   refine XS.tswIn X1.here hx rfl (pc0 := 4) (pc' := 82) rfl (hb hby d42_4) rfl (by decide) (o := 78) (by decide) (by decide) (by decide) ?_
   refine XS.bipush X1.here hx rfl (hb hby d42_82) ?_
   exact retI X1 hx Bd.returns (hb hby d42_84) hr
  ·show Q42 Z r0 eN eA eC ps crr ads sw oe efd rfd eyr ryr bt bf ic ksw yA mA dA zA h0 n0 _ T1.heap _
   rw [e1]
   exact ⟨_, rfl, own_lm.1 (by rw [hM]; decide), N0, rfl⟩
 ·skip
  have G11 : ∀ t, Steps p.tables e below (T1.setTop (mkF m 4 #[rv r0] [(.int (6 : Int32))])) t → Steps p.tables e below (s₁.setTop (entryFrame m #[(.ref r0)] 1)) t := fun t kt => G2 t (by rw [hM]; exact kt)
  obtain ⟨fs, hr, hrun, hended, hW, hsame⟩ := X1.leave (v := some (.int (30 : Int32))) (fun h => by rw [Bd.returns] at h; cases h)
  refine ⟨_, _, G11 _ ?_, hrun, hended, _, _, rfl, ?_, ⟨_, rfl⟩, hW, hsame.mono (by decide) (by decide)⟩
  ·skip
   refine XS.tswIn X1.here hx rfl (pc0 := 4) (pc' := 77) rfl (hb hby d42_4) rfl (by decide) (o := 73) (by decide) (by decide) (by decide) ?_
   refine XS.bipush X1.here hx rfl (hb hby d42_77) ?_
   refine XS.goto X1.here hx rfl (pc0 := 79) (pc' := 84) rfl (hb hby d42_79) (by decide) (by decide) ?_
   exact retI X1 hx Bd.returns (hb hby d42_84) hr
  ·show Q42 Z r0 eN eA eC ps crr ads sw oe efd rfd eyr ryr bt bf ic ksw yA mA dA zA h0 n0 _ T1.heap _
   rw [e1]
   exact ⟨_, rfl, own_lm.2.1 (by rw [hM]; decide), N0, rfl⟩
 ·skip
  have G12 : ∀ t, Steps p.tables e below (T1.setTop (mkF m 4 #[rv r0] [(.int (7 : Int32))])) t → Steps p.tables e below (s₁.setTop (entryFrame m #[(.ref r0)] 1)) t := fun t kt => G2 t (by rw [hM]; exact kt)
  obtain ⟨fs, hr, hrun, hended, hW, hsame⟩ := X1.leave (v := some (.int (31 : Int32))) (fun h => by rw [Bd.returns] at h; cases h)
  refine ⟨_, _, G12 _ ?_, hrun, hended, _, _, rfl, ?_, ⟨_, rfl⟩, hW, hsame.mono (by decide) (by decide)⟩
  ·skip
   refine XS.tswIn X1.here hx rfl (pc0 := 4) (pc' := 82) rfl (hb hby d42_4) rfl (by decide) (o := 78) (by decide) (by decide) (by decide) ?_
   refine XS.bipush X1.here hx rfl (hb hby d42_82) ?_
   exact retI X1 hx Bd.returns (hb hby d42_84) hr
  ·show Q42 Z r0 eN eA eC ps crr ads sw oe efd rfd eyr ryr bt bf ic ksw yA mA dA zA h0 n0 _ T1.heap _
   rw [e1]
   exact ⟨_, rfl, own_lm.1 (by rw [hM]; decide), N0, rfl⟩
 ·skip
  have G13 : ∀ t, Steps p.tables e below (T1.setTop (mkF m 4 #[rv r0] [(.int (8 : Int32))])) t → Steps p.tables e below (s₁.setTop (entryFrame m #[(.ref r0)] 1)) t := fun t kt => G2 t (by rw [hM]; exact kt)
  obtain ⟨fs, hr, hrun, hended, hW, hsame⟩ := X1.leave (v := some (.int (31 : Int32))) (fun h => by rw [Bd.returns] at h; cases h)
  refine ⟨_, _, G13 _ ?_, hrun, hended, _, _, rfl, ?_, ⟨_, rfl⟩, hW, hsame.mono (by decide) (by decide)⟩
  ·skip
   refine XS.tswIn X1.here hx rfl (pc0 := 4) (pc' := 82) rfl (hb hby d42_4) rfl (by decide) (o := 78) (by decide) (by decide) (by decide) ?_
   refine XS.bipush X1.here hx rfl (hb hby d42_82) ?_
   exact retI X1 hx Bd.returns (hb hby d42_84) hr
  ·show Q42 Z r0 eN eA eC ps crr ads sw oe efd rfd eyr ryr bt bf ic ksw yA mA dA zA h0 n0 _ T1.heap _
   rw [e1]
   exact ⟨_, rfl, own_lm.1 (by rw [hM]; decide), N0, rfl⟩
 ·skip
  have G14 : ∀ t, Steps p.tables e below (T1.setTop (mkF m 4 #[rv r0] [(.int (9 : Int32))])) t → Steps p.tables e below (s₁.setTop (entryFrame m #[(.ref r0)] 1)) t := fun t kt => G2 t (by rw [hM]; exact kt)
  obtain ⟨fs, hr, hrun, hended, hW, hsame⟩ := X1.leave (v := some (.int (30 : Int32))) (fun h => by rw [Bd.returns] at h; cases h)
  refine ⟨_, _, G14 _ ?_, hrun, hended, _, _, rfl, ?_, ⟨_, rfl⟩, hW, hsame.mono (by decide) (by decide)⟩
  ·skip
   refine XS.tswIn X1.here hx rfl (pc0 := 4) (pc' := 77) rfl (hb hby d42_4) rfl (by decide) (o := 73) (by decide) (by decide) (by decide) ?_
   refine XS.bipush X1.here hx rfl (hb hby d42_77) ?_
   refine XS.goto X1.here hx rfl (pc0 := 79) (pc' := 84) rfl (hb hby d42_79) (by decide) (by decide) ?_
   exact retI X1 hx Bd.returns (hb hby d42_84) hr
  ·show Q42 Z r0 eN eA eC ps crr ads sw oe efd rfd eyr ryr bt bf ic ksw yA mA dA zA h0 n0 _ T1.heap _
   rw [e1]
   exact ⟨_, rfl, own_lm.2.1 (by rw [hM]; decide), N0, rfl⟩
 ·skip
  have G15 : ∀ t, Steps p.tables e below (T1.setTop (mkF m 4 #[rv r0] [(.int (10 : Int32))])) t → Steps p.tables e below (s₁.setTop (entryFrame m #[(.ref r0)] 1)) t := fun t kt => G2 t (by rw [hM]; exact kt)
  obtain ⟨fs, hr, hrun, hended, hW, hsame⟩ := X1.leave (v := some (.int (31 : Int32))) (fun h => by rw [Bd.returns] at h; cases h)
  refine ⟨_, _, G15 _ ?_, hrun, hended, _, _, rfl, ?_, ⟨_, rfl⟩, hW, hsame.mono (by decide) (by decide)⟩
  ·skip
   refine XS.tswIn X1.here hx rfl (pc0 := 4) (pc' := 82) rfl (hb hby d42_4) rfl (by decide) (o := 78) (by decide) (by decide) (by decide) ?_
   refine XS.bipush X1.here hx rfl (hb hby d42_82) ?_
   exact retI X1 hx Bd.returns (hb hby d42_84) hr
  ·show Q42 Z r0 eN eA eC ps crr ads sw oe efd rfd eyr ryr bt bf ic ksw yA mA dA zA h0 n0 _ T1.heap _
   rw [e1]
   exact ⟨_, rfl, own_lm.1 (by rw [hM]; decide), N0, rfl⟩
 ·skip
  have G16 : ∀ t, Steps p.tables e below (T1.setTop (mkF m 4 #[rv r0] [(.int (11 : Int32))])) t → Steps p.tables e below (s₁.setTop (entryFrame m #[(.ref r0)] 1)) t := fun t kt => G2 t (by rw [hM]; exact kt)
  obtain ⟨fs, hr, hrun, hended, hW, hsame⟩ := X1.leave (v := some (.int (30 : Int32))) (fun h => by rw [Bd.returns] at h; cases h)
  refine ⟨_, _, G16 _ ?_, hrun, hended, _, _, rfl, ?_, ⟨_, rfl⟩, hW, hsame.mono (by decide) (by decide)⟩
  ·skip
   refine XS.tswIn X1.here hx rfl (pc0 := 4) (pc' := 77) rfl (hb hby d42_4) rfl (by decide) (o := 73) (by decide) (by decide) (by decide) ?_
   refine XS.bipush X1.here hx rfl (hb hby d42_77) ?_
   refine XS.goto X1.here hx rfl (pc0 := 79) (pc' := 84) rfl (hb hby d42_79) (by decide) (by decide) ?_
   exact retI X1 hx Bd.returns (hb hby d42_84) hr
  ·show Q42 Z r0 eN eA eC ps crr ads sw oe efd rfd eyr ryr bt bf ic ksw yA mA dA zA h0 n0 _ T1.heap _
   rw [e1]
   exact ⟨_, rfl, own_lm.2.1 (by rw [hM]; decide), N0, rfl⟩
 ·skip
  have G17 : ∀ t, Steps p.tables e below (T1.setTop (mkF m 4 #[rv r0] [(.int (12 : Int32))])) t → Steps p.tables e below (s₁.setTop (entryFrame m #[(.ref r0)] 1)) t := fun t kt => G2 t (by rw [hM]; exact kt)
  obtain ⟨fs, hr, hrun, hended, hW, hsame⟩ := X1.leave (v := some (.int (31 : Int32))) (fun h => by rw [Bd.returns] at h; cases h)
  refine ⟨_, _, G17 _ ?_, hrun, hended, _, _, rfl, ?_, ⟨_, rfl⟩, hW, hsame.mono (by decide) (by decide)⟩
  ·skip
   refine XS.tswOut X1.here hx rfl (pc0 := 4) (pc' := 82) rfl (hb hby d42_4) rfl (by decide) (by decide) (by decide) ?_
   refine XS.bipush X1.here hx rfl (hb hby d42_82) ?_
   exact retI X1 hx Bd.returns (hb hby d42_84) hr
  ·show Q42 Z r0 eN eA eC ps crr ads sw oe efd rfd eyr ryr bt bf ic ksw yA mA dA zA h0 n0 _ T1.heap _
   rw [e1]
   exact ⟨_, rfl, own_lm.1 (by rw [hM]; decide), N0, rfl⟩
theorem d41_0 : decode jdk_2323_method_44_code 0 = .ok (.lload_n 1, 1) := by decide +kernel
theorem d41_1 : decode jdk_2323_method_44_code 1 = .ok (.lconst 0, 1) := by decide +kernel
theorem d41_2 : decode jdk_2323_method_44_code 2 = .ok (.lcmp, 1) := by decide +kernel
theorem d41_3 : decode jdk_2323_method_44_code 3 = .ok (.ifCond .ne 5, 3) := by decide +kernel
theorem d41_8 : decode jdk_2323_method_44_code 8 = .ok (.aload_n 0, 1) := by decide +kernel
theorem d41_9 : decode jdk_2323_method_44_code 9 = .ok (.getfield 253, 3) := by decide +kernel
theorem d41_12 : decode jdk_2323_method_44_code 12 = .ok (.i2l, 1) := by decide +kernel
theorem d41_13 : decode jdk_2323_method_44_code 13 = .ok (.lload_n 1, 1) := by decide +kernel
theorem d41_14 : decode jdk_2323_method_44_code 14 = .ok (.ladd, 1) := by decide +kernel
theorem d41_15 : decode jdk_2323_method_44_code 15 = .ok (.lstore_n 3, 1) := by decide +kernel
theorem d41_16 : decode jdk_2323_method_44_code 16 = .ok (.lload_n 3, 1) := by decide +kernel
theorem d41_17 : decode jdk_2323_method_44_code 17 = .ok (.lconst 0, 1) := by decide +kernel
theorem d41_18 : decode jdk_2323_method_44_code 18 = .ok (.lcmp, 1) := by decide +kernel
theorem d41_19 : decode jdk_2323_method_44_code 19 = .ok (.ifCond .le 135, 3) := by decide +kernel
theorem d41_22 : decode jdk_2323_method_44_code 22 = .ok (.lload_n 3, 1) := by decide +kernel
theorem d41_23 : decode jdk_2323_method_44_code 23 = .ok (.ldc2_w 483, 3) := by decide +kernel
theorem d41_26 : decode jdk_2323_method_44_code 26 = .ok (.lcmp, 1) := by decide +kernel
theorem d41_27 : decode jdk_2323_method_44_code 27 = .ok (.ifCond .gt 21, 3) := by decide +kernel
theorem d41_48 : decode jdk_2323_method_44_code 48 = .ok (.lload_n 3, 1) := by decide +kernel
theorem d41_49 : decode jdk_2323_method_44_code 49 = .ok (.ldc2_w 485, 3) := by decide +kernel
theorem d41_52 : decode jdk_2323_method_44_code 52 = .ok (.lcmp, 1) := by decide +kernel
theorem d41_53 : decode jdk_2323_method_44_code 53 = .ok (.ifCond .gt 101, 3) := by decide +kernel
theorem d41_56 : decode jdk_2323_method_44_code 56 = .ok (.aload_n 0, 1) := by decide +kernel
theorem d41_57 : decode jdk_2323_method_44_code 57 = .ok (.invokevirtual 278, 3) := by decide +kernel
theorem pd_8 : parseMethodDescriptor "()I" = some ⟨[], some .int⟩ := by decide +kernel
theorem d41_60 : decode jdk_2323_method_44_code 60 = .ok (.i2l, 1) := by decide +kernel
theorem d41_61 : decode jdk_2323_method_44_code 61 = .ok (.lstore 5, 2) := by decide +kernel
theorem d41_63 : decode jdk_2323_method_44_code 63 = .ok (.lload_n 3, 1) := by decide +kernel
theorem d41_64 : decode jdk_2323_method_44_code 64 = .ok (.lload 5, 2) := by decide +kernel
theorem d41_66 : decode jdk_2323_method_44_code 66 = .ok (.lcmp, 1) := by decide +kernel
theorem d41_67 : decode jdk_2323_method_44_code 67 = .ok (.ifCond .gt 21, 3) := by decide +kernel
theorem d41_88 : decode jdk_2323_method_44_code 88 = .ok (.aload_n 0, 1) := by decide +kernel
theorem d41_89 : decode jdk_2323_method_44_code 89 = .ok (.getfield 250, 3) := by decide +kernel
theorem d41_92 : decode jdk_2323_method_44_code 92 = .ok (.bipush 12, 2) := by decide +kernel
theorem d41_94 : decode jdk_2323_method_44_code 94 = .ok (.if_icmp .ge 26, 3) := by decide +kernel
theorem d41_97 : decode jdk_2323_method_44_code 97 = .ok (.new 1, 3) := by decide +kernel
theorem d41_100 : decode jdk_2323_method_44_code 100 = .ok (.dup, 1) := by decide +kernel
theorem d41_101 : decode jdk_2323_method_44_code 101 = .ok (.aload_n 0, 1) := by decide +kernel
theorem d41_102 : decode jdk_2323_method_44_code 102 = .ok (.getfield 246, 3) := by decide +kernel
theorem d41_105 : decode jdk_2323_method_44_code 105 = .ok (.aload_n 0, 1) := by decide +kernel
theorem d41_106 : decode jdk_2323_method_44_code 106 = .ok (.getfield 250, 3) := by decide +kernel
theorem d41_109 : decode jdk_2323_method_44_code 109 = .ok (.iconst 1, 1) := by decide +kernel
theorem d41_110 : decode jdk_2323_method_44_code 110 = .ok (.iadd, 1) := by decide +kernel
theorem d41_111 : decode jdk_2323_method_44_code 111 = .ok (.lload_n 3, 1) := by decide +kernel
theorem d41_112 : decode jdk_2323_method_44_code 112 = .ok (.lload 5, 2) := by decide +kernel
theorem d41_114 : decode jdk_2323_method_44_code 114 = .ok (.lsub, 1) := by decide +kernel
theorem d41_115 : decode jdk_2323_method_44_code 115 = .ok (.l2i, 1) := by decide +kernel
theorem d41_116 : decode jdk_2323_method_44_code 116 = .ok (.invokespecial 121, 3) := by decide +kernel
theorem d41_119 : decode jdk_2323_method_44_code 119 = .ok (.areturn, 1) := by decide +kernel
theorem d41_120 : decode jdk_2323_method_44_code 120 = .ok (.getstatic 39, 3) := by decide +kernel
theorem d41_123 : decode jdk_2323_method_44_code 123 = .ok (.aload_n 0, 1) := by decide +kernel
theorem d41_124 : decode jdk_2323_method_44_code 124 = .ok (.getfield 246, 3) := by decide +kernel
theorem d41_127 : decode jdk_2323_method_44_code 127 = .ok (.iconst 1, 1) := by decide +kernel
theorem d41_128 : decode jdk_2323_method_44_code 128 = .ok (.iadd, 1) := by decide +kernel
theorem d41_129 : decode jdk_2323_method_44_code 129 = .ok (.i2l, 1) := by decide +kernel
theorem d41_130 : decode jdk_2323_method_44_code 130 = .ok (.invokevirtual 45, 3) := by decide +kernel
theorem d41_133 : decode jdk_2323_method_44_code 133 = .ok (.pop2, 1) := by decide +kernel
theorem d41_134 : decode jdk_2323_method_44_code 134 = .ok (.new 1, 3) := by decide +kernel
theorem d41_137 : decode jdk_2323_method_44_code 137 = .ok (.dup, 1) := by decide +kernel
theorem d41_138 : decode jdk_2323_method_44_code 138 = .ok (.aload_n 0, 1) := by decide +kernel
theorem d41_139 : decode jdk_2323_method_44_code 139 = .ok (.getfield 246, 3) := by decide +kernel
theorem d41_142 : decode jdk_2323_method_44_code 142 = .ok (.iconst 1, 1) := by decide +kernel
theorem d41_143 : decode jdk_2323_method_44_code 143 = .ok (.iadd, 1) := by decide +kernel
theorem d41_144 : decode jdk_2323_method_44_code 144 = .ok (.iconst 1, 1) := by decide +kernel
theorem d41_145 : decode jdk_2323_method_44_code 145 = .ok (.lload_n 3, 1) := by decide +kernel
theorem d41_146 : decode jdk_2323_method_44_code 146 = .ok (.lload 5, 2) := by decide +kernel
theorem d41_148 : decode jdk_2323_method_44_code 148 = .ok (.lsub, 1) := by decide +kernel
theorem d41_149 : decode jdk_2323_method_44_code 149 = .ok (.l2i, 1) := by decide +kernel
theorem d41_150 : decode jdk_2323_method_44_code 150 = .ok (.invokespecial 121, 3) := by decide +kernel
theorem d41_153 : decode jdk_2323_method_44_code 153 = .ok (.areturn, 1) := by decide +kernel
theorem d41_70 : decode jdk_2323_method_44_code 70 = .ok (.new 1, 3) := by decide +kernel
theorem d41_73 : decode jdk_2323_method_44_code 73 = .ok (.dup, 1) := by decide +kernel
theorem d41_74 : decode jdk_2323_method_44_code 74 = .ok (.aload_n 0, 1) := by decide +kernel
theorem d41_75 : decode jdk_2323_method_44_code 75 = .ok (.getfield 246, 3) := by decide +kernel
theorem d41_78 : decode jdk_2323_method_44_code 78 = .ok (.aload_n 0, 1) := by decide +kernel
theorem d41_79 : decode jdk_2323_method_44_code 79 = .ok (.getfield 250, 3) := by decide +kernel
theorem d41_82 : decode jdk_2323_method_44_code 82 = .ok (.lload_n 3, 1) := by decide +kernel
theorem d41_83 : decode jdk_2323_method_44_code 83 = .ok (.l2i, 1) := by decide +kernel
theorem d41_84 : decode jdk_2323_method_44_code 84 = .ok (.invokespecial 121, 3) := by decide +kernel
theorem d41_87 : decode jdk_2323_method_44_code 87 = .ok (.areturn, 1) := by decide +kernel
theorem d41_30 : decode jdk_2323_method_44_code 30 = .ok (.new 1, 3) := by decide +kernel
theorem d41_33 : decode jdk_2323_method_44_code 33 = .ok (.dup, 1) := by decide +kernel
theorem d41_34 : decode jdk_2323_method_44_code 34 = .ok (.aload_n 0, 1) := by decide +kernel
theorem d41_35 : decode jdk_2323_method_44_code 35 = .ok (.getfield 246, 3) := by decide +kernel
theorem d41_38 : decode jdk_2323_method_44_code 38 = .ok (.aload_n 0, 1) := by decide +kernel
theorem d41_39 : decode jdk_2323_method_44_code 39 = .ok (.getfield 250, 3) := by decide +kernel
theorem d41_42 : decode jdk_2323_method_44_code 42 = .ok (.lload_n 3, 1) := by decide +kernel
theorem d41_43 : decode jdk_2323_method_44_code 43 = .ok (.l2i, 1) := by decide +kernel
theorem d41_44 : decode jdk_2323_method_44_code 44 = .ok (.invokespecial 121, 3) := by decide +kernel
theorem d41_47 : decode jdk_2323_method_44_code 47 = .ok (.areturn, 1) := by decide +kernel
def Q41 (Z : State) (r0 : Addr) (eN eA eC ps crr ads sw oe efd rfd eyr ryr bt bf ic : Addr) (ksw : ClassId) (yA mA dA : Int32) (zA : Int) (h0 : Heap) (n0 : Nat) (v : Option Value) (h : Heap) (L : List Loc) : Prop := ∃ (b : Addr) (y m d : Int32), v = some (.ref b) ∧ Fr n0 L ∧ Keep h0 h [] ∧ Exa Z h b "java/time/LocalDate" ∧ Fld Z h b "java/time/LocalDate" "year" "I" (.int y) ∧ Fld Z h b "java/time/LocalDate" "month" "S" (.int m) ∧ Fld Z h b "java/time/LocalDate" "day" "S" (.int d) ∧ own_dt y m d (zA + 1)
theorem ef_rm41 (m : MethodId) (x0 : Addr) (x1 : Int64) : entryFrame m #[(.ref x0), (.long x1)] 7 = mkF m 0 #[.val (.ref x0), .val (.long x1), .second, .unset, .unset, .unset, .unset] [] := by first | (simp [entryFrame, mkF, argsToLocals, Value.category]; done) | rfl
set_option maxRecDepth 65536 in
set_option maxHeartbeats 40000000 in
theorem rm41 (l : Launch) (Z : State) (a0 : Array Value) (hw : ∀ d ∈ tables_1, d.before a0 Z = true) (ws : List Jvm.Cond) (r0 : Addr) (eN eA eC ps crr ads sw oe efd rfd eyr ryr bt bf ic : Addr) (ksw : ClassId) (yA mA dA : Int32) (zA : Int) (h0 : Heap) (n0 : Nat) (Z0 : n0 ≤ h0.size) (O0 : Old Z n0 h0) (ExA : Exa Z h0 r0 "java/time/LocalDate") (FyA : Fld Z h0 r0 "java/time/LocalDate" "year" "I" (.int yA)) (FmA : Fld Z h0 r0 "java/time/LocalDate" "month" "S" (.int mA)) (FdA : Fld Z h0 r0 "java/time/LocalDate" "day" "S" (.int dA)) (SS : Stw Z eN eA eC ps crr ads sw oe efd rfd eyr ryr bt bf ic ksw) (DA : own_dt yA mA dA zA) (hzA : zA + 1 ≤ 9000000000) :
  MetFree l (⟨"java/time/LocalDate", "plusDays", "(J)Ljava/time/LocalDate;"⟩ : MethodName) (head1 (Jvm.Cond.code (⟨"java/time/LocalDate", "plusDays", "(J)Ljava/time/LocalDate;"⟩ : MethodName) jdk_2323_method_44_code 7 (some (.object "java/time/LocalDate")) :: ws) ({ frames := 4, cells := 1, slots := 3, locals := 57 } : Room)) (fun a U => a = #[(.ref r0), (.long (1 : Int64))] ∧ Z.Warmed39 U.vm ∧ U.heap = h0) (fun _ _ _ _ _ => True) (fun _ U o U' => ∃ v L, o = .returned v ∧ Q41 Z r0 eN eA eC ps crr ads sw oe efd rfd eyr ryr bt bf ic ksw yA mA dA zA h0 n0 v U'.heap L ∧ FrameEnd U o U' L ({ frames := 4, cells := 1, slots := 3, locals := 57 } : Room).cells ({ frames := 4, cells := 1, slots := 3, locals := 57 } : Room).slots) := by
 refine MetFree.of_bodySF (plainFor_of_name pnc_java_time_LocalDate) hisR ?_
 intro p e s m args below meth c s₁ Bd hml0 hP hK
 obtain ⟨rfl, hZ, hh⟩ := hP
 have hx := Bd.exec
 have hby := Bd.bytes
 have hml : c.maxLocals = 7 := hml0
 have hown : s.vm.findClass "java/time/LocalDate" = some m.cls := findClass_of_methodNamed Bd.named
 have hnm := (name_of_methodNamed Bd.named Bd.method).1
 have X0 : Stand p l e ({ frames := 4, cells := 1, slots := 3, locals := 57 } : Room) s m #[(.ref r0), (.long (1 : Int64))] below meth c s₁ [] 0 0 := Stand.of_body Bd
 have e0 : s₁.heap = h0 := by rw [← hh, Bd.state]; rfl
 have N0 := Fr.nil n0
 have kp0 : Keep h0 h0 [] := Keep.refl _ _
 have G0 : ∀ t, Steps p.tables e below (s₁.setTop (mkF m 0 #[rv r0, .val (.long (1 : Int64)), .second, .unset, .unset, .unset, .unset] [])) t → Steps p.tables e below (s₁.setTop (entryFrame m #[(.ref r0), (.long (1 : Int64))] 7)) t := fun t k => castTop (ef_rm41 m r0 (1 : Int64)) k
 have G1 : ∀ t, Steps p.tables e below (s₁.setTop (mkF m 3 #[rv r0, .val (.long (1 : Int64)), .second, .unset, .unset, .unset, .unset] [(.int (lcmpW (1 : Int64) (0 : Int64)))])) t → Steps p.tables e below (s₁.setTop (entryFrame m #[(.ref r0), (.long (1 : Int64))] 7)) t := by
  intro t kt
  refine G0 _ ?_
  refine XS.lloadN X0.here hx rfl (hb hby d41_0) rfl ?_
  refine XS.lconst X0.here hx rfl (hb hby d41_1) ?_
  refine XS.lcmp X0.here hx rfl (hb hby d41_2) rfl ?_
  exact kt
 have hc3_2 : ¬ ((1 : Int64) = (0 : Int64)) := by decide
 obtain ⟨T3, X3, e3, st3⟩ := getF X0 hx hZ hown (host := "") (Or.inl (hq hw 164 rfl)) Via.refl e0 FdA (g := (mkF m 9 #[rv r0, .val (.long (1 : Int64)), .second, .unset, .unset, .unset, .unset] [(.ref r0)])) rfl rfl (hb hby d41_9)
 have G4 : ∀ t, Steps p.tables e below (T3.setTop (mkF m 16 #[rv r0, .val (.long (1 : Int64)), .second, .val (.long ((dA.toInt64) + (1 : Int64))), .second, .unset, .unset] [])) t → Steps p.tables e below (s₁.setTop (entryFrame m #[(.ref r0), (.long (1 : Int64))] 7)) t := by
  intro t kt
  refine G1 _ ?_
  refine XS.ifYes X0.here hx rfl (pc0 := 3) (pc' := 8) rfl (hb hby d41_3) rfl ((if0 _ _).trans (feq (fun q => hc3_2 ((lw_eq _ _).mp q))).2) (by decide) (by decide) ?_
  refine XS.aloadN X0.here hx rfl (hb hby d41_8) rfl rfl ?_
  refine st3 _ ?_
  refine XS.i2l X3.here hx rfl (hb hby d41_12) rfl ?_
  refine XS.lloadN X3.here hx rfl (hb hby d41_13) rfl ?_
  refine XS.ladd X3.here hx rfl (hb hby d41_14) rfl ?_
  refine XS.lstoreN X3.here hx rfl (hb hby d41_15) rfl (l' := #[rv r0, .val (.long (1 : Int64)), .second, .val (.long ((dA.toInt64) + (1 : Int64))), .second, .unset, .unset]) rfl ?_
  exact kt
 obtain ⟨dn, hdn⟩ : ∃ z : Int64, z = ((dA.toInt64) + (1 : Int64)) := ⟨_, rfl⟩
 have G5 : ∀ t, Steps p.tables e below (T3.setTop (mkF m 16 #[rv r0, .val (.long (1 : Int64)), .second, .val (.long dn), .second, .unset, .unset] [])) t → Steps p.tables e below (s₁.setTop (entryFrame m #[(.ref r0), (.long (1 : Int64))] 7)) t := by
  intro t kt
  rw [hdn] at kt
  exact G4 t kt
 have G6 : ∀ t, Steps p.tables e below (T3.setTop (mkF m 19 #[rv r0, .val (.long (1 : Int64)), .second, .val (.long dn), .second, .unset, .unset] [(.int (lcmpW dn (0 : Int64)))])) t → Steps p.tables e below (s₁.setTop (entryFrame m #[(.ref r0), (.long (1 : Int64))] 7)) t := by
  intro t kt
  refine G5 _ ?_
  refine XS.lloadN X3.here hx rfl (hb hby d41_16) rfl ?_
  refine XS.lconst X3.here hx rfl (hb hby d41_17) ?_
  refine XS.lcmp X3.here hx rfl (hb hby d41_18) rfl ?_
  exact kt
 have hc19_7 : (0 : Int64) < dn := (own_pn DA hdn).2.2.1
 have G8 : ∀ t, Steps p.tables e below (T3.setTop (mkF m 27 #[rv r0, .val (.long (1 : Int64)), .second, .val (.long dn), .second, .unset, .unset] [(.int (lcmpW dn (28 : Int64)))])) t → Steps p.tables e below (s₁.setTop (entryFrame m #[(.ref r0), (.long (1 : Int64))] 7)) t := by
  intro t kt
  refine G6 _ ?_
  refine XS.ifNo X3.here hx rfl (hb hby d41_19) rfl ((if0 _ _).trans (tlt ((lw_gt _ _).mpr hc19_7)).2.2.2) ?_
  refine XS.lloadN X3.here hx rfl (hb hby d41_22) rfl ?_
  refine X3.ldc2Long hx hown (mvT hZ (hq hw 305 rfl)) (g := (mkF m 23 #[rv r0, .val (.long (1 : Int64)), .second, .val (.long dn), .second, .unset, .unset] [(.long dn)])) rfl (hb hby d41_23) _ ?_
  refine XS.lcmp X3.here hx rfl (hb hby d41_26) rfl ?_
  exact kt
 by_cases hc27_9 : (28 : Int64) < dn
 ·skip
  have G10 : ∀ t, Steps p.tables e below (T3.setTop (mkF m 53 #[rv r0, .val (.long (1 : Int64)), .second, .val (.long dn), .second, .unset, .unset] [(.int (lcmpW dn (59 : Int64)))])) t → Steps p.tables e below (s₁.setTop (entryFrame m #[(.ref r0), (.long (1 : Int64))] 7)) t := by
   intro t kt
   refine G8 _ ?_
   refine XS.ifYes X3.here hx rfl (pc0 := 27) (pc' := 48) rfl (hb hby d41_27) rfl ((if0 _ _).trans (tlt ((lw_gt _ _).mpr hc27_9)).2.2.1) (by decide) (by decide) ?_
   refine XS.lloadN X3.here hx rfl (hb hby d41_48) rfl ?_
   refine X3.ldc2Long hx hown (mvT hZ (hq hw 307 rfl)) (g := (mkF m 49 #[rv r0, .val (.long (1 : Int64)), .second, .val (.long dn), .second, .unset, .unset] [(.long dn)])) rfl (hb hby d41_49) _ ?_
   refine XS.lcmp X3.here hx rfl (hb hby d41_52) rfl ?_
   exact kt
  have hc53_11 : ¬ ((59 : Int64) < dn) := (own_pn DA hdn).2.2.2
  obtain ⟨cq12, kq12, q12a, q12b, q12c⟩ := isOf hZ e3 ExA
  obtain ⟨_, _, ⟨T12, L12, k12, n12⟩, -, X12, ⟨Lc12, hQ12, l12, y12, z12⟩, st12⟩ := X3.virtualBack hx (y := (⟨"java/time/LocalDate", "lengthOfMonth", "()I"⟩ : MethodName)) (z := (⟨"java/time/LocalDate", "lengthOfMonth", "()I"⟩ : MethodName)) hown (mvT hZ (hq hw 308 rfl)) (mvT hZ (hq hw 309 rfl)) (notFace_of_selects (args := #[]) (mvT hZ (hq hw 311 rfl))) (mvT hZ (hq hw 311 rfl)) (mvT hZ (hq hw 310 rfl)) (by decide) (backOf (W := 0) (rm42 l Z a0 hw [] r0 eN eA eC ps crr ads sw oe efd rfd eyr ryr bt bf ic ksw yA mA dA (zA) h0 n0 Z0 O0 ExA FyA FmA FdA SS DA) hZ (hq hw 312 rfl) (hq hw 104 rfl) (by decide) (by decide)) q12a q12c (g := (mkF m 57 #[rv r0, .val (.long (1 : Int64)), .second, .val (.long dn), .second, .unset, .unset] [(.ref r0)])) rfl (by rw [hml]; rfl) (Steps.refl _) (argsL := []) (rest := []) (lenOf pd_8 rfl) rfl (by show 2 * 0 + _ ≤ _; exact Nat.le_of_eq rfl) (hb hby d41_57) (fun _ _ => ⟨rfl, e3, (by decide : 0 + 0 ≤ _), (by decide : 0 + 0 ≤ _)⟩)
  dsimp only [Pt.U, Pt.locs, Pt.cells, Pt.slots] at X12 l12 y12 z12 st12 hQ12
  subst l12 y12 z12
  obtain ⟨rl, rfl, hrl, N12q, eh12⟩ := hQ12
  have N12 := Fr.app N0 N12q
  have G13 : ∀ t, Steps p.tables e below (T12.setTop (mkF m 63 #[rv r0, .val (.long (1 : Int64)), .second, .val (.long dn), .second, .val (.long (rl.toInt64)), .second] [])) t → Steps p.tables e below (s₁.setTop (entryFrame m #[(.ref r0), (.long (1 : Int64))] 7)) t := by
   intro t kt
   refine G10 _ ?_
   refine XS.ifNo X3.here hx rfl (hb hby d41_53) rfl ((if0 _ _).trans (flt (fun q => hc53_11 ((lw_gt _ _).mp q))).2.2.1) ?_
   refine XS.aloadN X3.here hx rfl (hb hby d41_56) rfl rfl ?_
   show Steps p.tables e below (T3.setTop (mkF m 57 #[rv r0, .val (.long (1 : Int64)), .second, .val (.long dn), .second, .unset, .unset] [(.ref r0)])) _
   refine st12.trans ?_
   refine XS.i2l X12.here hx rfl (hb hby d41_60) rfl ?_
   refine XS.lstore X12.here hx rfl (hb hby d41_61) rfl (l' := #[rv r0, .val (.long (1 : Int64)), .second, .val (.long dn), .second, .val (.long (rl.toInt64)), .second]) rfl ?_
   exact kt
  obtain ⟨lnn, hlnn⟩ : ∃ z : Int64, z = (rl.toInt64) := ⟨_, rfl⟩
  have G14 : ∀ t, Steps p.tables e below (T12.setTop (mkF m 63 #[rv r0, .val (.long (1 : Int64)), .second, .val (.long dn), .second, .val (.long lnn), .second] [])) t → Steps p.tables e below (s₁.setTop (entryFrame m #[(.ref r0), (.long (1 : Int64))] 7)) t := by
   intro t kt
   rw [hlnn] at kt
   exact G13 t kt
  have G15 : ∀ t, Steps p.tables e below (T12.setTop (mkF m 67 #[rv r0, .val (.long (1 : Int64)), .second, .val (.long dn), .second, .val (.long lnn), .second] [(.int (lcmpW dn lnn))])) t → Steps p.tables e below (s₁.setTop (entryFrame m #[(.ref r0), (.long (1 : Int64))] 7)) t := by
   intro t kt
   refine G14 _ ?_
   refine XS.lloadN X12.here hx rfl (hb hby d41_63) rfl ?_
   refine XS.lload X12.here hx rfl (hb hby d41_64) rfl ?_
   refine XS.lcmp X12.here hx rfl (hb hby d41_66) rfl ?_
   exact kt
  by_cases hc67_16 : lnn < dn
  ·skip
   obtain ⟨T17, X17, e17, st17⟩ := getF X12 hx hZ hown (host := "") (Or.inl (hq hw 162 rfl)) Via.refl eh12 FmA (g := (mkF m 89 #[rv r0, .val (.long (1 : Int64)), .second, .val (.long dn), .second, .val (.long lnn), .second] [(.ref r0)])) rfl rfl (hb hby d41_89)
   have G18 : ∀ t, Steps p.tables e below (T17.setTop (mkF m 94 #[rv r0, .val (.long (1 : Int64)), .second, .val (.long dn), .second, .val (.long lnn), .second] [(.int (12 : Int32)), (.int mA)])) t → Steps p.tables e below (s₁.setTop (entryFrame m #[(.ref r0), (.long (1 : Int64))] 7)) t := by
    intro t kt
    refine G15 _ ?_
    refine XS.ifYes X12.here hx rfl (pc0 := 67) (pc' := 88) rfl (hb hby d41_67) rfl ((if0 _ _).trans (tlt ((lw_gt _ _).mpr hc67_16)).2.2.1) (by decide) (by decide) ?_
    refine XS.aloadN X12.here hx rfl (hb hby d41_88) rfl rfl ?_
    refine st17 _ ?_
    refine XS.bipush X17.here hx rfl (hb hby d41_92) ?_
    exact kt
   by_cases hc94_19 : mA < (12 : Int32)
   ·skip
    have PD := own_p3 DA hzA hdn hrl hlnn hc67_16 hc94_19
    obtain ⟨T20, h20, X20, e20, E20, A20, D20, -, st20⟩ := newO X17 hx hZ hown (hq hw 153 rfl) (hq hw 154 rfl) (hq hw 104 rfl) e17 (g := (mkF m 97 #[rv r0, .val (.long (1 : Int64)), .second, .val (.long dn), .second, .val (.long lnn), .second] [])) rfl (hb hby d41_97) (by decide) (by decide)
    obtain ⟨b20, g20⟩ : ∃ z, z = h0.size := ⟨_, rfl⟩
    rw [← g20] at A20 D20 st20
    have g_b20 : n0 ≤ b20 := Nat.le_trans Z0 (Nat.le_of_eq g20.symm)
    have sz_b20 : h0.size ≤ b20 := Nat.le_trans kp0.1 (Nat.le_of_eq g20.symm)
    have ne_r0_b20 : r0 ≠ b20 := Nat.ne_of_lt (Nat.lt_of_lt_of_le ExA.lt (Nat.le_of_eq g20.symm))
    have fa21 := O0.ext E20
    have fa22 := ExA.ext E20
    have fa23 := FyA.ext E20
    have fa24 := FmA.ext E20
    have fa25 := FdA.ext E20
    have z26 : n0 ≤ h20.size := Nat.le_trans Z0 E20.1
    have kp27 : Keep h0 h20 [] := kp0.ext E20
    have fa28 : Fld Z h20 b20 "java/time/LocalDate" "year" "I" (.int (0 : Int32)) := D20 (Or.inr (hq hw 161 rfl)) (ty := .int) (by decide)
    have fa29 : Fld Z h20 b20 "java/time/LocalDate" "month" "S" (.int (0 : Int32)) := D20 (Or.inr (hq hw 163 rfl)) (ty := .short) (by decide)
    have fa30 : Fld Z h20 b20 "java/time/LocalDate" "day" "S" (.int (0 : Int32)) := D20 (Or.inr (hq hw 165 rfl)) (ty := .short) (by decide)
    obtain ⟨T31, X31, e31, st31⟩ := getF X20 hx hZ hown (host := "") (Or.inl (hq hw 160 rfl)) Via.refl e20 fa23 (g := (mkF m 102 #[rv r0, .val (.long (1 : Int64)), .second, .val (.long dn), .second, .val (.long lnn), .second] [(.ref r0), (.ref b20), (.ref b20)])) rfl rfl (hb hby d41_102)
    obtain ⟨T32, X32, e32, st32⟩ := getF X31 hx hZ hown (host := "") (Or.inl (hq hw 162 rfl)) Via.refl e31 fa24 (g := (mkF m 106 #[rv r0, .val (.long (1 : Int64)), .second, .val (.long dn), .second, .val (.long lnn), .second] [(.ref r0), (.int yA), (.ref b20), (.ref b20)])) rfl rfl (hb hby d41_106)
    obtain ⟨_, _, ⟨T33, L33, k33, n33⟩, -, X33, ⟨Lc33, hQ33, l33, y33, z33⟩, st33⟩ := X32.specialBack hx (y := (⟨"java/time/LocalDate", "<init>", "(III)V"⟩ : MethodName)) rfl hown (mvT hZ (hq hw 155 rfl)) (mvT hZ (hq hw 156 rfl)) (mvT hZ (hq hw 158 rfl)) (by decide) (backOf (W := 1) (rm21 l Z a0 hw [] b20 yA (mA + (1 : Int32)) ((dn - lnn).toInt32)  h20 n0 z26 A20 fa28 fa29 fa30 g_b20 PD.1) hZ (hq hw 158 rfl) (hq hw 104 rfl) (by decide) (by decide)) (g := (mkF m 116 #[rv r0, .val (.long (1 : Int64)), .second, .val (.long dn), .second, .val (.long lnn), .second] [(.int ((dn - lnn).toInt32)), (.int (mA + (1 : Int32))), (.int yA), (.ref b20), (.ref b20)])) rfl (by rw [hml]; rfl) (Steps.refl _) (a := b20) (argsL := [(.int yA), (.int (mA + (1 : Int32))), (.int ((dn - lnn).toInt32))]) (rest := [(.ref b20)]) (lenOf pd_5 rfl) rfl (by show 2 * 0 + _ ≤ _; exact Nat.le_of_eq rfl) (hb hby d41_116) (fun _ _ => ⟨rfl, e32, (by decide : 1 + 0 ≤ _), (by decide : 3 + 0 ≤ _)⟩)
    dsimp only [Pt.U, Pt.locs, Pt.cells, Pt.slots] at X33 l33 y33 z33 st33 hQ33
    subst l33 y33 z33
    obtain ⟨rfl, N33q, K33, A33, F33_0, F33_1, F33_2⟩ := hQ33
    have N33 := Fr.app N12 N33q
    have fa34 := fa21.keep K33 (allS g_b20 all0)
    have fa35 := fa22.keep K33
    have fa36 := fa23.keep K33 (ninS ne_r0_b20 nin0)
    have fa37 := fa24.keep K33 (ninS ne_r0_b20 nin0)
    have fa38 := fa25.keep K33 (ninS ne_r0_b20 nin0)
    have fa39 := A20.keep K33
    have z40 : n0 ≤ T33.heap.size := Nat.le_trans z26 K33.1
    have kp41 : Keep h0 T33.heap [] := kp27.trans K33 (allS (Or.inr sz_b20) all0)
    obtain ⟨fs, hr, hrun, hended, hW, hsame⟩ := X33.leave (v := some (.ref b20)) (fun h => by rw [Bd.returns] at h; cases h)
    refine ⟨_, _, G18 _ ?_, hrun, hended, _, _, rfl, ?_, ⟨_, rfl⟩, hW, hsame.mono (by decide) (by decide)⟩
    ·skip
     refine XS.icmpNo X17.here hx rfl (hb hby d41_94) rfl (tlt hc94_19).2.1 ?_
     refine st20 _ ?_
     refine XS.dup X20.here hx rfl (hb hby d41_100) rfl rfl ?_
     refine XS.aloadN X20.here hx rfl (hb hby d41_101) rfl rfl ?_
     refine st31 _ ?_
     refine XS.aloadN X31.here hx rfl (hb hby d41_105) rfl rfl ?_
     refine st32 _ ?_
     refine XS.iconst X32.here hx rfl (hb hby d41_109) ?_
     refine XS.iadd X32.here hx rfl (hb hby d41_110) rfl ?_
     refine XS.lloadN X32.here hx rfl (hb hby d41_111) rfl ?_
     refine XS.lload X32.here hx rfl (hb hby d41_112) rfl ?_
     refine XS.lsub X32.here hx rfl (hb hby d41_114) rfl ?_
     show Steps p.tables e below (T32.setTop (mkF m 115 #[rv r0, .val (.long (1 : Int64)), .second, .val (.long dn), .second, .val (.long lnn), .second] [(.long (dn - lnn)), (.int (mA + (1 : Int32))), (.int yA), (.ref b20), (.ref b20)])) _
     refine XS.l2i X32.here hx rfl (hb hby d41_115) rfl ?_
     refine st33.trans ?_
     exact retOut X33 hx Bd.returns rfl (Or.inr (Or.inr (Or.inr (Or.inr ⟨rfl, rfl, rfl⟩)))) (hb hby d41_119) hr
    ·show Q41 Z r0 eN eA eC ps crr ads sw oe efd rfd eyr ryr bt bf ic ksw yA mA dA zA h0 n0 _ T33.heap _
     exact ⟨b20, _, _, _, rfl, N33, kp41, fa39, F33_0, F33_1, F33_2, PD⟩
   ·skip
    obtain ⟨T42, X42, e42, st42⟩ := getS2 X17 hx hZ hown (host := "") (Or.inl (hq hw 313 rfl)) Via.refl e17 (SS.2.2.2.2.2.2.2.2.2.1.ext O0.2) (g := (mkF m 120 #[rv r0, .val (.long (1 : Int64)), .second, .val (.long dn), .second, .val (.long lnn), .second] [])) rfl (hb hby d41_120)
    obtain ⟨T43, X43, e43, st43⟩ := getF X42 hx hZ hown (host := "") (Or.inl (hq hw 160 rfl)) Via.refl e42 FyA (g := (mkF m 124 #[rv r0, .val (.long (1 : Int64)), .second, .val (.long dn), .second, .val (.long lnn), .second] [(.ref r0), (.ref eyr)])) rfl rfl (hb hby d41_124)
    obtain ⟨cq44, kq44, q44a, q44b, q44c⟩ := isOf hZ e43 (SS.2.2.2.2.2.2.2.2.2.2.2.2.2.2.2.2.2.2.2.2.2.2.2.2.2.2.2.1.ext O0.2)
    obtain ⟨_, _, ⟨T44, L44, k44, n44⟩, -, X44, ⟨Lc44, hQ44, l44, y44, z44⟩, st44⟩ := X43.virtualBack hx (y := (⟨"java/time/temporal/ChronoField", "checkValidValue", "(J)J"⟩ : MethodName)) (z := (⟨"java/time/temporal/ChronoField", "checkValidValue", "(J)J"⟩ : MethodName)) hown (mvT hZ (hq hw 108 rfl)) (mvT hZ (hq hw 109 rfl)) (notFace_of_selects (args := #[]) (mvT hZ (hq hw 111 rfl))) (mvT hZ (hq hw 111 rfl)) (mvT hZ (hq hw 110 rfl)) (by decide) (backOf (W := 0) (rm15 l Z a0 hw [] eyr ((yA + (1 : Int32)).toInt64) ryr (-999999999 : Int64) (999999999 : Int64) h0 n0 Z0 (SS.2.2.2.2.2.2.2.2.2.2.2.2.2.2.2.2.2.2.2.2.2.2.2.2.2.2.2.1.ext O0.2) (SS.2.2.2.2.2.2.2.2.2.2.2.2.2.2.2.2.2.2.2.2.2.2.2.2.2.2.2.2.1.ext O0.2) (SS.2.2.2.2.2.2.2.2.2.2.2.2.2.2.2.2.2.2.2.2.2.2.2.2.2.2.2.2.2.1.ext O0.2) (SS.2.2.2.2.2.2.2.2.2.2.2.2.2.2.2.2.2.2.2.2.2.2.2.2.2.2.2.2.2.2.1.ext O0.2) (SS.2.2.2.2.2.2.2.2.2.2.2.2.2.2.2.2.2.2.2.2.2.2.2.2.2.2.2.2.2.2.2.1.ext O0.2) (own_p5 DA).1 (own_p5 DA).2 ) hZ (hq hw 112 rfl) (hq hw 107 rfl) (by decide) (by decide)) q44a q44c (g := (mkF m 130 #[rv r0, .val (.long (1 : Int64)), .second, .val (.long dn), .second, .val (.long lnn), .second] [(.long ((yA + (1 : Int32)).toInt64)), (.ref eyr)])) rfl (by rw [hml]; rfl) (Steps.refl _) (argsL := [(.long ((yA + (1 : Int32)).toInt64))]) (rest := []) (lenOf pd_4 rfl) rfl (by show 2 * 0 + _ ≤ _; exact Nat.le_of_eq rfl) (hb hby d41_130) (fun _ _ => ⟨rfl, e43, (by decide : 0 + 0 ≤ _), (by decide : 0 + 0 ≤ _)⟩)
    dsimp only [Pt.U, Pt.locs, Pt.cells, Pt.slots] at X44 l44 y44 z44 st44 hQ44
    subst l44 y44 z44
    obtain ⟨rfl, N44q, eh44⟩ := hQ44
    have N44 := Fr.app N12 N44q
    have PD := own_p4 DA hzA hdn hrl hlnn hc67_16 hc94_19
    obtain ⟨T45, h45, X45, e45, E45, A45, D45, -, st45⟩ := newO X44 hx hZ hown (hq hw 153 rfl) (hq hw 154 rfl) (hq hw 104 rfl) eh44 (g := (mkF m 134 #[rv r0, .val (.long (1 : Int64)), .second, .val (.long dn), .second, .val (.long lnn), .second] [])) rfl (hb hby d41_134) (by decide) (by decide)
    obtain ⟨b45, g45⟩ : ∃ z, z = h0.size := ⟨_, rfl⟩
    rw [← g45] at A45 D45 st45
    have g_b45 : n0 ≤ b45 := Nat.le_trans Z0 (Nat.le_of_eq g45.symm)
    have sz_b45 : h0.size ≤ b45 := Nat.le_trans kp0.1 (Nat.le_of_eq g45.symm)
    have ne_r0_b45 : r0 ≠ b45 := Nat.ne_of_lt (Nat.lt_of_lt_of_le ExA.lt (Nat.le_of_eq g45.symm))
    have fa46 := O0.ext E45
    have fa47 := ExA.ext E45
    have fa48 := FyA.ext E45
    have fa49 := FmA.ext E45
    have fa50 := FdA.ext E45
    have z51 : n0 ≤ h45.size := Nat.le_trans Z0 E45.1
    have kp52 : Keep h0 h45 [] := kp0.ext E45
    have fa53 : Fld Z h45 b45 "java/time/LocalDate" "year" "I" (.int (0 : Int32)) := D45 (Or.inr (hq hw 161 rfl)) (ty := .int) (by decide)
    have fa54 : Fld Z h45 b45 "java/time/LocalDate" "month" "S" (.int (0 : Int32)) := D45 (Or.inr (hq hw 163 rfl)) (ty := .short) (by decide)
    have fa55 : Fld Z h45 b45 "java/time/LocalDate" "day" "S" (.int (0 : Int32)) := D45 (Or.inr (hq hw 165 rfl)) (ty := .short) (by decide)
    obtain ⟨T56, X56, e56, st56⟩ := getF X45 hx hZ hown (host := "") (Or.inl (hq hw 160 rfl)) Via.refl e45 fa48 (g := (mkF m 139 #[rv r0, .val (.long (1 : Int64)), .second, .val (.long dn), .second, .val (.long lnn), .second] [(.ref r0), (.ref b45), (.ref b45)])) rfl rfl (hb hby d41_139)
    obtain ⟨_, _, ⟨T57, L57, k57, n57⟩, -, X57, ⟨Lc57, hQ57, l57, y57, z57⟩, st57⟩ := X56.specialBack hx (y := (⟨"java/time/LocalDate", "<init>", "(III)V"⟩ : MethodName)) rfl hown (mvT hZ (hq hw 155 rfl)) (mvT hZ (hq hw 156 rfl)) (mvT hZ (hq hw 158 rfl)) (by decide) (backOf (W := 1) (rm21 l Z a0 hw [] b45 (yA + (1 : Int32)) (1 : Int32) ((dn - lnn).toInt32)  h45 n0 z51 A45 fa53 fa54 fa55 g_b45 PD.1) hZ (hq hw 158 rfl) (hq hw 104 rfl) (by decide) (by decide)) (g := (mkF m 150 #[rv r0, .val (.long (1 : Int64)), .second, .val (.long dn), .second, .val (.long lnn), .second] [(.int ((dn - lnn).toInt32)), (.int (1 : Int32)), (.int (yA + (1 : Int32))), (.ref b45), (.ref b45)])) rfl (by rw [hml]; rfl) (Steps.refl _) (a := b45) (argsL := [(.int (yA + (1 : Int32))), (.int (1 : Int32)), (.int ((dn - lnn).toInt32))]) (rest := [(.ref b45)]) (lenOf pd_5 rfl) rfl (by show 2 * 0 + _ ≤ _; exact Nat.le_of_eq rfl) (hb hby d41_150) (fun _ _ => ⟨rfl, e56, (by decide : 1 + 0 ≤ _), (by decide : 3 + 0 ≤ _)⟩)
    dsimp only [Pt.U, Pt.locs, Pt.cells, Pt.slots] at X57 l57 y57 z57 st57 hQ57
    subst l57 y57 z57
    obtain ⟨rfl, N57q, K57, A57, F57_0, F57_1, F57_2⟩ := hQ57
    have N57 := Fr.app N44 N57q
    have fa58 := fa46.keep K57 (allS g_b45 all0)
    have fa59 := fa47.keep K57
    have fa60 := fa48.keep K57 (ninS ne_r0_b45 nin0)
    have fa61 := fa49.keep K57 (ninS ne_r0_b45 nin0)
    have fa62 := fa50.keep K57 (ninS ne_r0_b45 nin0)
    have fa63 := A45.keep K57
    have z64 : n0 ≤ T57.heap.size := Nat.le_trans z51 K57.1
    have kp65 : Keep h0 T57.heap [] := kp52.trans K57 (allS (Or.inr sz_b45) all0)
    obtain ⟨fs, hr, hrun, hended, hW, hsame⟩ := X57.leave (v := some (.ref b45)) (fun h => by rw [Bd.returns] at h; cases h)
    refine ⟨_, _, G18 _ ?_, hrun, hended, _, _, rfl, ?_, ⟨_, rfl⟩, hW, hsame.mono (by decide) (by decide)⟩
    ·skip
     refine XS.icmpYes X17.here hx rfl (pc0 := 94) (pc' := 120) rfl (hb hby d41_94) rfl (flt hc94_19).2.1 (by decide) (by decide) ?_
     refine st42 _ ?_
     refine XS.aloadN X42.here hx rfl (hb hby d41_123) rfl rfl ?_
     refine st43 _ ?_
     refine XS.iconst X43.here hx rfl (hb hby d41_127) ?_
     refine XS.iadd X43.here hx rfl (hb hby d41_128) rfl ?_
     refine XS.i2l X43.here hx rfl (hb hby d41_129) rfl ?_
     refine st44.trans ?_
     jvm_step X44.here [X44.here.top, hx, (hb hby d41_133), Value.category]
     refine st45 _ ?_
     refine XS.dup X45.here hx rfl (hb hby d41_137) rfl rfl ?_
     refine XS.aloadN X45.here hx rfl (hb hby d41_138) rfl rfl ?_
     show Steps p.tables e below (T45.setTop (mkF m 139 #[rv r0, .val (.long (1 : Int64)), .second, .val (.long dn), .second, .val (.long lnn), .second] [(.ref r0), (.ref b45), (.ref b45)])) _
     refine st56 _ ?_
     refine XS.iconst X56.here hx rfl (hb hby d41_142) ?_
     refine XS.iadd X56.here hx rfl (hb hby d41_143) rfl ?_
     refine XS.iconst X56.here hx rfl (hb hby d41_144) ?_
     refine XS.lloadN X56.here hx rfl (hb hby d41_145) rfl ?_
     refine XS.lload X56.here hx rfl (hb hby d41_146) rfl ?_
     refine XS.lsub X56.here hx rfl (hb hby d41_148) rfl ?_
     refine XS.l2i X56.here hx rfl (hb hby d41_149) rfl ?_
     refine st57.trans ?_
     exact retOut X57 hx Bd.returns rfl (Or.inr (Or.inr (Or.inr (Or.inr ⟨rfl, rfl, rfl⟩)))) (hb hby d41_153) hr
    ·show Q41 Z r0 eN eA eC ps crr ads sw oe efd rfd eyr ryr bt bf ic ksw yA mA dA zA h0 n0 _ T57.heap _
     exact ⟨b45, _, _, _, rfl, N57, kp65, fa63, F57_0, F57_1, F57_2, PD⟩
  ·skip
   have PD := own_p2 DA hzA hdn hrl hlnn hc67_16
   obtain ⟨T66, h66, X66, e66, E66, A66, D66, -, st66⟩ := newO X12 hx hZ hown (hq hw 153 rfl) (hq hw 154 rfl) (hq hw 104 rfl) eh12 (g := (mkF m 70 #[rv r0, .val (.long (1 : Int64)), .second, .val (.long dn), .second, .val (.long lnn), .second] [])) rfl (hb hby d41_70) (by decide) (by decide)
   obtain ⟨b66, g66⟩ : ∃ z, z = h0.size := ⟨_, rfl⟩
   rw [← g66] at A66 D66 st66
   have g_b66 : n0 ≤ b66 := Nat.le_trans Z0 (Nat.le_of_eq g66.symm)
   have sz_b66 : h0.size ≤ b66 := Nat.le_trans kp0.1 (Nat.le_of_eq g66.symm)
   have ne_r0_b66 : r0 ≠ b66 := Nat.ne_of_lt (Nat.lt_of_lt_of_le ExA.lt (Nat.le_of_eq g66.symm))
   have fa67 := O0.ext E66
   have fa68 := ExA.ext E66
   have fa69 := FyA.ext E66
   have fa70 := FmA.ext E66
   have fa71 := FdA.ext E66
   have z72 : n0 ≤ h66.size := Nat.le_trans Z0 E66.1
   have kp73 : Keep h0 h66 [] := kp0.ext E66
   have fa74 : Fld Z h66 b66 "java/time/LocalDate" "year" "I" (.int (0 : Int32)) := D66 (Or.inr (hq hw 161 rfl)) (ty := .int) (by decide)
   have fa75 : Fld Z h66 b66 "java/time/LocalDate" "month" "S" (.int (0 : Int32)) := D66 (Or.inr (hq hw 163 rfl)) (ty := .short) (by decide)
   have fa76 : Fld Z h66 b66 "java/time/LocalDate" "day" "S" (.int (0 : Int32)) := D66 (Or.inr (hq hw 165 rfl)) (ty := .short) (by decide)
   obtain ⟨T77, X77, e77, st77⟩ := getF X66 hx hZ hown (host := "") (Or.inl (hq hw 160 rfl)) Via.refl e66 fa69 (g := (mkF m 75 #[rv r0, .val (.long (1 : Int64)), .second, .val (.long dn), .second, .val (.long lnn), .second] [(.ref r0), (.ref b66), (.ref b66)])) rfl rfl (hb hby d41_75)
   obtain ⟨T78, X78, e78, st78⟩ := getF X77 hx hZ hown (host := "") (Or.inl (hq hw 162 rfl)) Via.refl e77 fa70 (g := (mkF m 79 #[rv r0, .val (.long (1 : Int64)), .second, .val (.long dn), .second, .val (.long lnn), .second] [(.ref r0), (.int yA), (.ref b66), (.ref b66)])) rfl rfl (hb hby d41_79)
   obtain ⟨_, _, ⟨T79, L79, k79, n79⟩, -, X79, ⟨Lc79, hQ79, l79, y79, z79⟩, st79⟩ := X78.specialBack hx (y := (⟨"java/time/LocalDate", "<init>", "(III)V"⟩ : MethodName)) rfl hown (mvT hZ (hq hw 155 rfl)) (mvT hZ (hq hw 156 rfl)) (mvT hZ (hq hw 158 rfl)) (by decide) (backOf (W := 1) (rm21 l Z a0 hw [] b66 yA mA (dn.toInt32)  h66 n0 z72 A66 fa74 fa75 fa76 g_b66 PD.1) hZ (hq hw 158 rfl) (hq hw 104 rfl) (by decide) (by decide)) (g := (mkF m 84 #[rv r0, .val (.long (1 : Int64)), .second, .val (.long dn), .second, .val (.long lnn), .second] [(.int (dn.toInt32)), (.int mA), (.int yA), (.ref b66), (.ref b66)])) rfl (by rw [hml]; rfl) (Steps.refl _) (a := b66) (argsL := [(.int yA), (.int mA), (.int (dn.toInt32))]) (rest := [(.ref b66)]) (lenOf pd_5 rfl) rfl (by show 2 * 0 + _ ≤ _; exact Nat.le_of_eq rfl) (hb hby d41_84) (fun _ _ => ⟨rfl, e78, (by decide : 1 + 0 ≤ _), (by decide : 3 + 0 ≤ _)⟩)
   dsimp only [Pt.U, Pt.locs, Pt.cells, Pt.slots] at X79 l79 y79 z79 st79 hQ79
   subst l79 y79 z79
   obtain ⟨rfl, N79q, K79, A79, F79_0, F79_1, F79_2⟩ := hQ79
   have N79 := Fr.app N12 N79q
   have fa80 := fa67.keep K79 (allS g_b66 all0)
   have fa81 := fa68.keep K79
   have fa82 := fa69.keep K79 (ninS ne_r0_b66 nin0)
   have fa83 := fa70.keep K79 (ninS ne_r0_b66 nin0)
   have fa84 := fa71.keep K79 (ninS ne_r0_b66 nin0)
   have fa85 := A66.keep K79
   have z86 : n0 ≤ T79.heap.size := Nat.le_trans z72 K79.1
   have kp87 : Keep h0 T79.heap [] := kp73.trans K79 (allS (Or.inr sz_b66) all0)
   obtain ⟨fs, hr, hrun, hended, hW, hsame⟩ := X79.leave (v := some (.ref b66)) (fun h => by rw [Bd.returns] at h; cases h)
   refine ⟨_, _, G15 _ ?_, hrun, hended, _, _, rfl, ?_, ⟨_, rfl⟩, hW, hsame.mono (by decide) (by decide)⟩
   ·skip
    refine XS.ifNo X12.here hx rfl (hb hby d41_67) rfl ((if0 _ _).trans (flt (fun q => hc67_16 ((lw_gt _ _).mp q))).2.2.1) ?_
    refine st66 _ ?_
    refine XS.dup X66.here hx rfl (hb hby d41_73) rfl rfl ?_
    refine XS.aloadN X66.here hx rfl (hb hby d41_74) rfl rfl ?_
    refine st77 _ ?_
    refine XS.aloadN X77.here hx rfl (hb hby d41_78) rfl rfl ?_
    refine st78 _ ?_
    refine XS.lloadN X78.here hx rfl (hb hby d41_82) rfl ?_
    refine XS.l2i X78.here hx rfl (hb hby d41_83) rfl ?_
    refine st79.trans ?_
    exact retOut X79 hx Bd.returns rfl (Or.inr (Or.inr (Or.inr (Or.inr ⟨rfl, rfl, rfl⟩)))) (hb hby d41_87) hr
   ·show Q41 Z r0 eN eA eC ps crr ads sw oe efd rfd eyr ryr bt bf ic ksw yA mA dA zA h0 n0 _ T79.heap _
    exact ⟨b66, _, _, _, rfl, N79, kp87, fa85, F79_0, F79_1, F79_2, PD⟩
 ·skip
  have PD := own_p1 DA hzA hdn hc27_9
  obtain ⟨T88, h88, X88, e88, E88, A88, D88, -, st88⟩ := newO X3 hx hZ hown (hq hw 153 rfl) (hq hw 154 rfl) (hq hw 104 rfl) e3 (g := (mkF m 30 #[rv r0, .val (.long (1 : Int64)), .second, .val (.long dn), .second, .unset, .unset] [])) rfl (hb hby d41_30) (by decide) (by decide)
  obtain ⟨b88, g88⟩ : ∃ z, z = h0.size := ⟨_, rfl⟩
  rw [← g88] at A88 D88 st88
  have g_b88 : n0 ≤ b88 := Nat.le_trans Z0 (Nat.le_of_eq g88.symm)
  have sz_b88 : h0.size ≤ b88 := Nat.le_trans kp0.1 (Nat.le_of_eq g88.symm)
  have ne_r0_b88 : r0 ≠ b88 := Nat.ne_of_lt (Nat.lt_of_lt_of_le ExA.lt (Nat.le_of_eq g88.symm))
  have fa89 := O0.ext E88
  have fa90 := ExA.ext E88
  have fa91 := FyA.ext E88
  have fa92 := FmA.ext E88
  have fa93 := FdA.ext E88
  have z94 : n0 ≤ h88.size := Nat.le_trans Z0 E88.1
  have kp95 : Keep h0 h88 [] := kp0.ext E88
  have fa96 : Fld Z h88 b88 "java/time/LocalDate" "year" "I" (.int (0 : Int32)) := D88 (Or.inr (hq hw 161 rfl)) (ty := .int) (by decide)
  have fa97 : Fld Z h88 b88 "java/time/LocalDate" "month" "S" (.int (0 : Int32)) := D88 (Or.inr (hq hw 163 rfl)) (ty := .short) (by decide)
  have fa98 : Fld Z h88 b88 "java/time/LocalDate" "day" "S" (.int (0 : Int32)) := D88 (Or.inr (hq hw 165 rfl)) (ty := .short) (by decide)
  obtain ⟨T99, X99, e99, st99⟩ := getF X88 hx hZ hown (host := "") (Or.inl (hq hw 160 rfl)) Via.refl e88 fa91 (g := (mkF m 35 #[rv r0, .val (.long (1 : Int64)), .second, .val (.long dn), .second, .unset, .unset] [(.ref r0), (.ref b88), (.ref b88)])) rfl rfl (hb hby d41_35)
  obtain ⟨T100, X100, e100, st100⟩ := getF X99 hx hZ hown (host := "") (Or.inl (hq hw 162 rfl)) Via.refl e99 fa92 (g := (mkF m 39 #[rv r0, .val (.long (1 : Int64)), .second, .val (.long dn), .second, .unset, .unset] [(.ref r0), (.int yA), (.ref b88), (.ref b88)])) rfl rfl (hb hby d41_39)
  obtain ⟨_, _, ⟨T101, L101, k101, n101⟩, -, X101, ⟨Lc101, hQ101, l101, y101, z101⟩, st101⟩ := X100.specialBack hx (y := (⟨"java/time/LocalDate", "<init>", "(III)V"⟩ : MethodName)) rfl hown (mvT hZ (hq hw 155 rfl)) (mvT hZ (hq hw 156 rfl)) (mvT hZ (hq hw 158 rfl)) (by decide) (backOf (W := 1) (rm21 l Z a0 hw [] b88 yA mA (dn.toInt32)  h88 n0 z94 A88 fa96 fa97 fa98 g_b88 PD.1) hZ (hq hw 158 rfl) (hq hw 104 rfl) (by decide) (by decide)) (g := (mkF m 44 #[rv r0, .val (.long (1 : Int64)), .second, .val (.long dn), .second, .unset, .unset] [(.int (dn.toInt32)), (.int mA), (.int yA), (.ref b88), (.ref b88)])) rfl (by rw [hml]; rfl) (Steps.refl _) (a := b88) (argsL := [(.int yA), (.int mA), (.int (dn.toInt32))]) (rest := [(.ref b88)]) (lenOf pd_5 rfl) rfl (by show 2 * 0 + _ ≤ _; exact Nat.le_of_eq rfl) (hb hby d41_44) (fun _ _ => ⟨rfl, e100, (by decide : 1 + 0 ≤ _), (by decide : 3 + 0 ≤ _)⟩)
  dsimp only [Pt.U, Pt.locs, Pt.cells, Pt.slots] at X101 l101 y101 z101 st101 hQ101
  subst l101 y101 z101
  obtain ⟨rfl, N101q, K101, A101, F101_0, F101_1, F101_2⟩ := hQ101
  have N101 := Fr.app N0 N101q
  have fa102 := fa89.keep K101 (allS g_b88 all0)
  have fa103 := fa90.keep K101
  have fa104 := fa91.keep K101 (ninS ne_r0_b88 nin0)
  have fa105 := fa92.keep K101 (ninS ne_r0_b88 nin0)
  have fa106 := fa93.keep K101 (ninS ne_r0_b88 nin0)
  have fa107 := A88.keep K101
  have z108 : n0 ≤ T101.heap.size := Nat.le_trans z94 K101.1
  have kp109 : Keep h0 T101.heap [] := kp95.trans K101 (allS (Or.inr sz_b88) all0)
  obtain ⟨fs, hr, hrun, hended, hW, hsame⟩ := X101.leave (v := some (.ref b88)) (fun h => by rw [Bd.returns] at h; cases h)
  refine ⟨_, _, G8 _ ?_, hrun, hended, _, _, rfl, ?_, ⟨_, rfl⟩, hW, hsame.mono (by decide) (by decide)⟩
  ·skip
   refine XS.ifNo X3.here hx rfl (hb hby d41_27) rfl ((if0 _ _).trans (flt (fun q => hc27_9 ((lw_gt _ _).mp q))).2.2.1) ?_
   refine st88 _ ?_
   refine XS.dup X88.here hx rfl (hb hby d41_33) rfl rfl ?_
   refine XS.aloadN X88.here hx rfl (hb hby d41_34) rfl rfl ?_
   refine st99 _ ?_
   show Steps p.tables e below (T99.setTop (mkF m 38 #[rv r0, .val (.long (1 : Int64)), .second, .val (.long dn), .second, .unset, .unset] [(.int yA), (.ref b88), (.ref b88)])) _
   refine XS.aloadN X99.here hx rfl (hb hby d41_38) rfl rfl ?_
   refine st100 _ ?_
   refine XS.lloadN X100.here hx rfl (hb hby d41_42) rfl ?_
   refine XS.l2i X100.here hx rfl (hb hby d41_43) rfl ?_
   refine st101.trans ?_
   exact retOut X101 hx Bd.returns rfl (Or.inr (Or.inr (Or.inr (Or.inr ⟨rfl, rfl, rfl⟩)))) (hb hby d41_47) hr
  ·show Q41 Z r0 eN eA eC ps crr ads sw oe efd rfd eyr ryr bt bf ic ksw yA mA dA zA h0 n0 _ T101.heap _
   exact ⟨b88, _, _, _, rfl, N101, kp109, fa107, F101_0, F101_1, F101_2, PD⟩
theorem d25_0 : decode jdk_31_method_10_code 0 = .ok (.aload_n 0, 1) := by decide +kernel
theorem d25_1 : decode jdk_31_method_10_code 1 = .ok (.ifnonnull 11, 3) := by decide +kernel
theorem d25_12 : decode jdk_31_method_10_code 12 = .ok (.aload_n 0, 1) := by decide +kernel
theorem d25_13 : decode jdk_31_method_10_code 13 = .ok (.areturn, 1) := by decide +kernel
def Q25 (Z : State) (r0 : Addr) (h0 : Heap) (n0 : Nat) (v : Option Value) (h : Heap) (L : List Loc) : Prop := v = some (.ref r0) ∧ Fr n0 L ∧ h = h0
theorem ef_rm25 (m : MethodId) (x0 : Addr) : entryFrame m #[(.ref x0)] 1 = mkF m 0 #[.val (.ref x0)] [] := by first | (simp [entryFrame, mkF, argsToLocals, Value.category]; done) | rfl
theorem pnc_java_util_Objects : plainName "java/util/Objects" = true := by first | (simp [plainName, overriddenIn]; done) | decide +kernel
set_option maxRecDepth 65536 in
set_option maxHeartbeats 40000000 in
theorem rm25 (l : Launch) (Z : State) (a0 : Array Value) (hw : ∀ d ∈ tables_1, d.before a0 Z = true) (ws : List Jvm.Cond) (r0 : Addr) (h0 : Heap) (n0 : Nat) (Z0 : n0 ≤ h0.size) :
  MetFree l (⟨"java/util/Objects", "requireNonNull", "(Ljava/lang/Object;)Ljava/lang/Object;"⟩ : MethodName) (head1 (Jvm.Cond.code (⟨"java/util/Objects", "requireNonNull", "(Ljava/lang/Object;)Ljava/lang/Object;"⟩ : MethodName) jdk_31_method_10_code 1 (some (.object "java/lang/Object")) :: ws) ({ frames := 0, cells := 0, slots := 0, locals := 0 } : Room)) (fun a U => a = #[(.ref r0)] ∧ Z.Warmed39 U.vm ∧ U.heap = h0) (fun _ _ _ _ _ => True) (fun _ U o U' => ∃ v L, o = .returned v ∧ Q25 Z r0 h0 n0 v U'.heap L ∧ FrameEnd U o U' L ({ frames := 0, cells := 0, slots := 0, locals := 0 } : Room).cells ({ frames := 0, cells := 0, slots := 0, locals := 0 } : Room).slots) := by
 refine MetFree.of_bodySF (plainFor_of_name pnc_java_util_Objects) hisR ?_
 intro p e s m args below meth c s₁ Bd hml0 hP hK
 obtain ⟨rfl, hZ, hh⟩ := hP
 have hx := Bd.exec
 have hby := Bd.bytes
 have hml : c.maxLocals = 1 := hml0
 have hown : s.vm.findClass "java/util/Objects" = some m.cls := findClass_of_methodNamed Bd.named
 have hnm := (name_of_methodNamed Bd.named Bd.method).1
 have X0 : Stand p l e ({ frames := 0, cells := 0, slots := 0, locals := 0 } : Room) s m #[(.ref r0)] below meth c s₁ [] 0 0 := Stand.of_body Bd
 have e0 : s₁.heap = h0 := by rw [← hh, Bd.state]; rfl
 have N0 := Fr.nil n0
 have kp0 : Keep h0 h0 [] := Keep.refl _ _
 have G0 : ∀ t, Steps p.tables e below (s₁.setTop (mkF m 0 #[rv r0] [])) t → Steps p.tables e below (s₁.setTop (entryFrame m #[(.ref r0)] 1)) t := fun t k => castTop (ef_rm25 m r0) k
 obtain ⟨fs, hr, hrun, hended, hW, hsame⟩ := X0.leave (v := some (.ref r0)) (fun h => by rw [Bd.returns] at h; cases h)
 refine ⟨_, _, G0 _ ?_, hrun, hended, _, _, rfl, ?_, ⟨_, rfl⟩, hW, hsame.mono (by decide) (by decide)⟩
 ·skip
  refine XS.aloadN X0.here hx rfl (hb hby d25_0) rfl rfl ?_
  refine XS.ifnonnullYes X0.here hx rfl (pc0 := 1) (pc' := 12) rfl (hb hby d25_1) rfl (by decide) (by decide) ?_
  refine XS.aloadN X0.here hx rfl (hb hby d25_12) rfl rfl ?_
  exact retOut X0 hx Bd.returns rfl (Or.inr (Or.inr (Or.inr (Or.inr ⟨rfl, rfl, rfl⟩)))) (hb hby d25_13) hr
 ·show Q25 Z r0 h0 n0 _ s₁.heap _
  rw [e0]
  exact ⟨rfl, N0, rfl⟩
theorem d6_0 : decode jdk_31_method_11_code 0 = .ok (.aload_n 0, 1) := by decide +kernel
theorem d6_1 : decode jdk_31_method_11_code 1 = .ok (.ifnonnull 12, 3) := by decide +kernel
theorem d6_13 : decode jdk_31_method_11_code 13 = .ok (.aload_n 0, 1) := by decide +kernel
theorem d6_14 : decode jdk_31_method_11_code 14 = .ok (.areturn, 1) := by decide +kernel
def Q6 (Z : State) (r0 : Addr) (r1 : Addr) (h0 : Heap) (n0 : Nat) (v : Option Value) (h : Heap) (L : List Loc) : Prop := v = some (.ref r0) ∧ Fr n0 L ∧ h = h0
theorem ef_rm6 (m : MethodId) (x0 : Addr) (x1 : Addr) : entryFrame m #[(.ref x0), (.ref x1)] 2 = mkF m 0 #[.val (.ref x0), .val (.ref x1)] [] := by first | (simp [entryFrame, mkF, argsToLocals, Value.category]; done) | rfl
set_option maxRecDepth 65536 in
set_option maxHeartbeats 40000000 in
theorem rm6 (l : Launch) (Z : State) (a0 : Array Value) (hw : ∀ d ∈ tables_1, d.before a0 Z = true) (ws : List Jvm.Cond) (r0 : Addr) (r1 : Addr) (h0 : Heap) (n0 : Nat) (Z0 : n0 ≤ h0.size) :
  MetFree l (⟨"java/util/Objects", "requireNonNull", "(Ljava/lang/Object;Ljava/lang/String;)Ljava/lang/Object;"⟩ : MethodName) (head1 (Jvm.Cond.code (⟨"java/util/Objects", "requireNonNull", "(Ljava/lang/Object;Ljava/lang/String;)Ljava/lang/Object;"⟩ : MethodName) jdk_31_method_11_code 2 (some (.object "java/lang/Object")) :: ws) ({ frames := 0, cells := 0, slots := 0, locals := 0 } : Room)) (fun a U => a = #[(.ref r0), (.ref r1)] ∧ Z.Warmed39 U.vm ∧ U.heap = h0) (fun _ _ _ _ _ => True) (fun _ U o U' => ∃ v L, o = .returned v ∧ Q6 Z r0 r1 h0 n0 v U'.heap L ∧ FrameEnd U o U' L ({ frames := 0, cells := 0, slots := 0, locals := 0 } : Room).cells ({ frames := 0, cells := 0, slots := 0, locals := 0 } : Room).slots) := by
 refine MetFree.of_bodySF (plainFor_of_name pnc_java_util_Objects) hisR ?_
 intro p e s m args below meth c s₁ Bd hml0 hP hK
 obtain ⟨rfl, hZ, hh⟩ := hP
 have hx := Bd.exec
 have hby := Bd.bytes
 have hml : c.maxLocals = 2 := hml0
 have hown : s.vm.findClass "java/util/Objects" = some m.cls := findClass_of_methodNamed Bd.named
 have hnm := (name_of_methodNamed Bd.named Bd.method).1
 have X0 : Stand p l e ({ frames := 0, cells := 0, slots := 0, locals := 0 } : Room) s m #[(.ref r0), (.ref r1)] below meth c s₁ [] 0 0 := Stand.of_body Bd
 have e0 : s₁.heap = h0 := by rw [← hh, Bd.state]; rfl
 have N0 := Fr.nil n0
 have kp0 : Keep h0 h0 [] := Keep.refl _ _
 have G0 : ∀ t, Steps p.tables e below (s₁.setTop (mkF m 0 #[rv r0, rv r1] [])) t → Steps p.tables e below (s₁.setTop (entryFrame m #[(.ref r0), (.ref r1)] 2)) t := fun t k => castTop (ef_rm6 m r0 r1) k
 obtain ⟨fs, hr, hrun, hended, hW, hsame⟩ := X0.leave (v := some (.ref r0)) (fun h => by rw [Bd.returns] at h; cases h)
 refine ⟨_, _, G0 _ ?_, hrun, hended, _, _, rfl, ?_, ⟨_, rfl⟩, hW, hsame.mono (by decide) (by decide)⟩
 ·skip
  refine XS.aloadN X0.here hx rfl (hb hby d6_0) rfl rfl ?_
  refine XS.ifnonnullYes X0.here hx rfl (pc0 := 1) (pc' := 13) rfl (hb hby d6_1) rfl (by decide) (by decide) ?_
  refine XS.aloadN X0.here hx rfl (hb hby d6_13) rfl rfl ?_
  exact retOut X0 hx Bd.returns rfl (Or.inr (Or.inr (Or.inr (Or.inr ⟨rfl, rfl, rfl⟩)))) (hb hby d6_14) hr
 ·show Q6 Z r0 r1 h0 n0 _ s₁.heap _
  rw [e0]
  exact ⟨rfl, N0, rfl⟩
theorem d4_0 : decode jdk_30_method_1_code 0 = .ok (.aload_n 0, 1) := by decide +kernel
theorem d4_1 : decode jdk_30_method_1_code 1 = .ok (.invokespecial 1, 3) := by decide +kernel
theorem d4_4 : decode jdk_30_method_1_code 4 = .ok (.return_, 1) := by decide +kernel
def Q4 (Z : State) (r0 : Addr) (h0 : Heap) (n0 : Nat) (v : Option Value) (h : Heap) (L : List Loc) : Prop := v = none ∧ Fr n0 L ∧ h = h0
theorem ef_rm4 (m : MethodId) (x0 : Addr) : entryFrame m #[(.ref x0)] 1 = mkF m 0 #[.val (.ref x0)] [] := by first | (simp [entryFrame, mkF, argsToLocals, Value.category]; done) | rfl
theorem pnc_java_lang_Record : plainName "java/lang/Record" = true := by first | (simp [plainName, overriddenIn]; done) | decide +kernel
set_option maxRecDepth 65536 in
set_option maxHeartbeats 40000000 in
theorem rm4 (l : Launch) (Z : State) (a0 : Array Value) (hw : ∀ d ∈ tables_1, d.before a0 Z = true) (ws : List Jvm.Cond) (r0 : Addr) (h0 : Heap) (n0 : Nat) (Z0 : n0 ≤ h0.size) :
  MetFree l (⟨"java/lang/Record", "<init>", "()V"⟩ : MethodName) (head1 (Jvm.Cond.code (⟨"java/lang/Record", "<init>", "()V"⟩ : MethodName) jdk_30_method_1_code 1 none :: ws) ({ frames := 1, cells := 0, slots := 0, locals := 12 } : Room)) (fun a U => a = #[(.ref r0)] ∧ Z.Warmed39 U.vm ∧ U.heap = h0) (fun _ _ _ _ _ => True) (fun _ U o U' => ∃ v L, o = .returned v ∧ Q4 Z r0 h0 n0 v U'.heap L ∧ FrameEnd U o U' L ({ frames := 1, cells := 0, slots := 0, locals := 12 } : Room).cells ({ frames := 1, cells := 0, slots := 0, locals := 12 } : Room).slots) := by
 refine MetFree.of_bodySF (plainFor_of_name pnc_java_lang_Record) hisR ?_
 intro p e s m args below meth c s₁ Bd hml0 hP hK
 obtain ⟨rfl, hZ, hh⟩ := hP
 have hx := Bd.exec
 have hby := Bd.bytes
 have hml : c.maxLocals = 1 := hml0
 have hown : s.vm.findClass "java/lang/Record" = some m.cls := findClass_of_methodNamed Bd.named
 have hnm := (name_of_methodNamed Bd.named Bd.method).1
 have X0 : Stand p l e ({ frames := 1, cells := 0, slots := 0, locals := 12 } : Room) s m #[(.ref r0)] below meth c s₁ [] 0 0 := Stand.of_body Bd
 have e0 : s₁.heap = h0 := by rw [← hh, Bd.state]; rfl
 have N0 := Fr.nil n0
 have kp0 : Keep h0 h0 [] := Keep.refl _ _
 have G0 : ∀ t, Steps p.tables e below (s₁.setTop (mkF m 0 #[rv r0] [])) t → Steps p.tables e below (s₁.setTop (entryFrame m #[(.ref r0)] 1)) t := fun t k => castTop (ef_rm4 m r0) k
 obtain ⟨T1, X1, e1, st1⟩ := initO X0 hx hZ hown (hq hw 35 rfl) (hq hw 36 rfl) (hq hw 37 rfl) e0 (g := (mkF m 1 #[rv r0] [(.ref r0)])) rfl (by rw [hml]; rfl) rfl (hb hby d4_1) (by decide) (W := 0) (by show 2 * 0 + _ ≤ _; exact Nat.le_of_eq rfl) (by decide)
 obtain ⟨fs, hr, hrun, hended, hW, hsame⟩ := X1.leave (v := none) (fun _ => rfl)
 refine ⟨_, _, G0 _ ?_, hrun, hended, _, _, rfl, ?_, ⟨_, rfl⟩, hW, hsame.mono (by decide) (by decide)⟩
 ·skip
  refine XS.aloadN X0.here hx rfl (hb hby d4_0) rfl rfl ?_
  refine st1 _ ?_
  exact X1.returnOut hx Bd.returns (hb hby d4_4) hr
 ·show Q4 Z r0 h0 n0 _ T1.heap _
  rw [e1]
  exact ⟨rfl, N0, rfl⟩
theorem d34_0 : decode jdk_32_method_2_code 0 = .ok (.aload_n 0, 1) := by decide +kernel
theorem d34_1 : decode jdk_32_method_2_code 1 = .ok (.invokespecial 7, 3) := by decide +kernel
theorem d34_4 : decode jdk_32_method_2_code 4 = .ok (.aload_n 0, 1) := by decide +kernel
theorem d34_5 : decode jdk_32_method_2_code 5 = .ok (.aload_n 1, 1) := by decide +kernel
theorem d34_6 : decode jdk_32_method_2_code 6 = .ok (.putfield 13, 3) := by decide +kernel
theorem d34_9 : decode jdk_32_method_2_code 9 = .ok (.return_, 1) := by decide +kernel
def Q34 (Z : State) (r0 : Addr) (r1 : Addr) (h0 : Heap) (n0 : Nat) (v : Option Value) (h : Heap) (L : List Loc) : Prop := v = none ∧ Fr n0 L ∧ Keep h0 h [r0] ∧ Exa Z h r0 "java/util/Optional" ∧ Fld Z h r0 "java/util/Optional" "value" "Ljava/lang/Object;" (.ref r1)
theorem ef_rm34 (m : MethodId) (x0 : Addr) (x1 : Addr) : entryFrame m #[(.ref x0), (.ref x1)] 2 = mkF m 0 #[.val (.ref x0), .val (.ref x1)] [] := by first | (simp [entryFrame, mkF, argsToLocals, Value.category]; done) | rfl
theorem pnc_java_util_Optional : plainName "java/util/Optional" = true := by first | (simp [plainName, overriddenIn]; done) | decide +kernel
set_option maxRecDepth 65536 in
set_option maxHeartbeats 40000000 in
theorem rm34 (l : Launch) (Z : State) (a0 : Array Value) (hw : ∀ d ∈ tables_1, d.before a0 Z = true) (ws : List Jvm.Cond) (r0 : Addr) (r1 : Addr) (h0 : Heap) (n0 : Nat) (Z0 : n0 ≤ h0.size) (E0 : Exa Z h0 r0 "java/util/Optional") (Fz : Fld Z h0 r0 "java/util/Optional" "value" "Ljava/lang/Object;" .null) (g_r0 : n0 ≤ r0) :
  MetFree l (⟨"java/util/Optional", "<init>", "(Ljava/lang/Object;)V"⟩ : MethodName) (head1 (Jvm.Cond.code (⟨"java/util/Optional", "<init>", "(Ljava/lang/Object;)V"⟩ : MethodName) jdk_32_method_2_code 2 none :: ws) ({ frames := 1, cells := 0, slots := 0, locals := 12 } : Room)) (fun a U => a = #[(.ref r0), (.ref r1)] ∧ Z.Warmed39 U.vm ∧ U.heap = h0) (fun _ _ _ _ _ => True) (fun _ U o U' => ∃ v L, o = .returned v ∧ Q34 Z r0 r1 h0 n0 v U'.heap L ∧ FrameEnd U o U' L ({ frames := 1, cells := 0, slots := 0, locals := 12 } : Room).cells ({ frames := 1, cells := 0, slots := 0, locals := 12 } : Room).slots) := by
 refine MetFree.of_bodySF (plainFor_of_name pnc_java_util_Optional) hisR ?_
 intro p e s m args below meth c s₁ Bd hml0 hP hK
 obtain ⟨rfl, hZ, hh⟩ := hP
 have hx := Bd.exec
 have hby := Bd.bytes
 have hml : c.maxLocals = 2 := hml0
 have hown : s.vm.findClass "java/util/Optional" = some m.cls := findClass_of_methodNamed Bd.named
 have hnm := (name_of_methodNamed Bd.named Bd.method).1
 have X0 : Stand p l e ({ frames := 1, cells := 0, slots := 0, locals := 12 } : Room) s m #[(.ref r0), (.ref r1)] below meth c s₁ [] 0 0 := Stand.of_body Bd
 have e0 : s₁.heap = h0 := by rw [← hh, Bd.state]; rfl
 have N0 := Fr.nil n0
 have kp0 : Keep h0 h0 [r0] := Keep.refl _ _
 have G0 : ∀ t, Steps p.tables e below (s₁.setTop (mkF m 0 #[rv r0, rv r1] [])) t → Steps p.tables e below (s₁.setTop (entryFrame m #[(.ref r0), (.ref r1)] 2)) t := fun t k => castTop (ef_rm34 m r0 r1) k
 obtain ⟨T1, X1, e1, st1⟩ := initO X0 hx hZ hown (hq hw 256 rfl) (hq hw 36 rfl) (hq hw 37 rfl) e0 (g := (mkF m 1 #[rv r0, rv r1] [(.ref r0)])) rfl (by rw [hml]; rfl) rfl (hb hby d34_1) (by decide) (W := 0) (by show 2 * 0 + _ ≤ _; exact Nat.le_of_eq rfl) (by decide)
 obtain ⟨T2, h2, X2, e2, W2, st2⟩ := putF X1 hx hZ hown (host := "") (Or.inl (hq hw 205 rfl)) Via.refl e1 Fz E0 (Or.inr ⟨(hq hw 206 rfl), rfl, hnm⟩) (hq hw 251 rfl) (ty := (.object "java/lang/Object")) (by decide) rfl rfl (g := (mkF m 6 #[rv r0, rv r1] [(.ref r1), (.ref r0)])) rfl rfl (hb hby d34_6)
 have fa3 := E0.wr W2
 have fa4 : Fld Z h2 r0 "java/util/Optional" "value" "Ljava/lang/Object;" (.ref r1) := Fz.same W2
 have z5 : n0 ≤ h2.size := Nat.le_trans Z0 (Nat.le_of_eq W2.size.symm)
 have kp6 : Keep h0 h2 [r0] := kp0.wr W2 (Or.inl (List.mem_of_getElem? (i := 0) rfl))
 have N2 := Fr.snoc X2 N0 g_r0
 obtain ⟨fs, hr, hrun, hended, hW, hsame⟩ := X2.leave (v := none) (fun _ => rfl)
 refine ⟨_, _, G0 _ ?_, hrun, hended, _, _, rfl, ?_, ⟨_, rfl⟩, hW, hsame.mono (by decide) (by decide)⟩
 ·skip
  refine XS.aloadN X0.here hx rfl (hb hby d34_0) rfl rfl ?_
  refine st1 _ ?_
  refine XS.aloadN X1.here hx rfl (hb hby d34_4) rfl rfl ?_
  refine XS.aloadN X1.here hx rfl (hb hby d34_5) rfl rfl ?_
  refine st2 _ ?_
  exact X2.returnOut hx Bd.returns (hb hby d34_9) hr
 ·show Q34 Z r0 r1 h0 n0 _ T2.heap _
  rw [e2]
  exact ⟨rfl, N2, kp6, fa3, fa4⟩
theorem d33_0 : decode jdk_32_method_3_code 0 = .ok (.new 2, 3) := by decide +kernel
theorem d33_3 : decode jdk_32_method_3_code 3 = .ok (.dup, 1) := by decide +kernel
theorem d33_4 : decode jdk_32_method_3_code 4 = .ok (.aload_n 0, 1) := by decide +kernel
theorem d33_5 : decode jdk_32_method_3_code 5 = .ok (.invokestatic 17, 3) := by decide +kernel
theorem pd_9 : parseMethodDescriptor "(Ljava/lang/Object;)Ljava/lang/Object;" = some ⟨[(.object "java/lang/Object")], some (.object "java/lang/Object")⟩ := by decide +kernel
theorem d33_8 : decode jdk_32_method_3_code 8 = .ok (.invokespecial 23, 3) := by decide +kernel
theorem pd_10 : parseMethodDescriptor "(Ljava/lang/Object;)V" = some ⟨[(.object "java/lang/Object")], none⟩ := by decide +kernel
theorem d33_11 : decode jdk_32_method_3_code 11 = .ok (.areturn, 1) := by decide +kernel
def Q33 (Z : State) (r0 : Addr) (h0 : Heap) (n0 : Nat) (v : Option Value) (h : Heap) (L : List Loc) : Prop := ∃ b : Addr, v = some (.ref b) ∧ Fr n0 L ∧ Keep h0 h [] ∧ Exa Z h b "java/util/Optional" ∧ Fld Z h b "java/util/Optional" "value" "Ljava/lang/Object;" (.ref r0)
theorem ef_rm33 (m : MethodId) (x0 : Addr) : entryFrame m #[(.ref x0)] 1 = mkF m 0 #[.val (.ref x0)] [] := by first | (simp [entryFrame, mkF, argsToLocals, Value.category]; done) | rfl
set_option maxRecDepth 65536 in
set_option maxHeartbeats 40000000 in
theorem rm33 (l : Launch) (Z : State) (a0 : Array Value) (hw : ∀ d ∈ tables_1, d.before a0 Z = true) (ws : List Jvm.Cond) (r0 : Addr) (h0 : Heap) (n0 : Nat) (Z0 : n0 ≤ h0.size) :
  MetFree l (⟨"java/util/Optional", "of", "(Ljava/lang/Object;)Ljava/util/Optional;"⟩ : MethodName) (head1 (Jvm.Cond.code (⟨"java/util/Optional", "of", "(Ljava/lang/Object;)Ljava/util/Optional;"⟩ : MethodName) jdk_32_method_3_code 1 (some (.object "java/util/Optional")) :: ws) ({ frames := 2, cells := 1, slots := 1, locals := 26 } : Room)) (fun a U => a = #[(.ref r0)] ∧ Z.Warmed39 U.vm ∧ U.heap = h0) (fun _ _ _ _ _ => True) (fun _ U o U' => ∃ v L, o = .returned v ∧ Q33 Z r0 h0 n0 v U'.heap L ∧ FrameEnd U o U' L ({ frames := 2, cells := 1, slots := 1, locals := 26 } : Room).cells ({ frames := 2, cells := 1, slots := 1, locals := 26 } : Room).slots) := by
 refine MetFree.of_bodySF (plainFor_of_name pnc_java_util_Optional) hisR ?_
 intro p e s m args below meth c s₁ Bd hml0 hP hK
 obtain ⟨rfl, hZ, hh⟩ := hP
 have hx := Bd.exec
 have hby := Bd.bytes
 have hml : c.maxLocals = 1 := hml0
 have hown : s.vm.findClass "java/util/Optional" = some m.cls := findClass_of_methodNamed Bd.named
 have hnm := (name_of_methodNamed Bd.named Bd.method).1
 have X0 : Stand p l e ({ frames := 2, cells := 1, slots := 1, locals := 26 } : Room) s m #[(.ref r0)] below meth c s₁ [] 0 0 := Stand.of_body Bd
 have e0 : s₁.heap = h0 := by rw [← hh, Bd.state]; rfl
 have N0 := Fr.nil n0
 have kp0 : Keep h0 h0 [] := Keep.refl _ _
 have G0 : ∀ t, Steps p.tables e below (s₁.setTop (mkF m 0 #[rv r0] [])) t → Steps p.tables e below (s₁.setTop (entryFrame m #[(.ref r0)] 1)) t := fun t k => castTop (ef_rm33 m r0) k
 obtain ⟨T1, h1, X1, e1, E1, A1, D1, -, st1⟩ := newO X0 hx hZ hown (hq hw 250 rfl) (hq hw 251 rfl) (hq hw 7 rfl) e0 (g := (mkF m 0 #[rv r0] [])) rfl (hb hby d33_0) (by decide) (by decide)
 obtain ⟨b1, g1⟩ : ∃ z, z = h0.size := ⟨_, rfl⟩
 rw [← g1] at A1 D1 st1
 have g_b1 : n0 ≤ b1 := Nat.le_trans Z0 (Nat.le_of_eq g1.symm)
 have sz_b1 : h0.size ≤ b1 := Nat.le_trans kp0.1 (Nat.le_of_eq g1.symm)
 have z2 : n0 ≤ h1.size := Nat.le_trans Z0 E1.1
 have kp3 : Keep h0 h1 [] := kp0.ext E1
 have fa4 : Fld Z h1 b1 "java/util/Optional" "value" "Ljava/lang/Object;" .null := D1 (Or.inr (hq hw 206 rfl)) (ty := (.object "java/lang/Object")) (by decide)
 obtain ⟨_, _, ⟨T5, L5, k5, n5⟩, -, X5, ⟨Lc5, hQ5, l5, y5, z5⟩, st5⟩ := Jvm.LawKit.callS X1 hx (y := (⟨"java/util/Objects", "requireNonNull", "(Ljava/lang/Object;)Ljava/lang/Object;"⟩ : MethodName)) hown (mvT hZ (hq hw 199 rfl)) (mvT hZ (hq hw 189 rfl)) (mvT hZ (hq hw 48 rfl)) (mvT hZ (hq hw 190 rfl)) (by decide) (backOf (W := 2) (rm25 l Z a0 hw [] r0  h1 n0 z2  ) hZ (hq hw 190 rfl) (hq hw 48 rfl) (by decide) (by decide)) (g := (mkF m 5 #[rv r0] [(.ref r0), (.ref b1), (.ref b1)])) rfl (by rw [hml]; rfl) (argsL := [(.ref r0)]) (rest := [(.ref b1), (.ref b1)]) (lenOf pd_9 rfl) rfl (by show 2 * 0 + _ ≤ _; exact Nat.le_of_eq rfl) (hb hby d33_5) (fun _ _ => ⟨rfl, e1, (by decide : 1 + 0 ≤ _), (by decide : 1 + 0 ≤ _)⟩)
 dsimp only [Pt.U, Pt.locs, Pt.cells, Pt.slots] at X5 l5 y5 z5 st5 hQ5
 subst l5 y5 z5
 obtain ⟨rfl, N5q, eh5⟩ := hQ5
 have N5 := Fr.app N0 N5q
 obtain ⟨_, _, ⟨T6, L6, k6, n6⟩, -, X6, ⟨Lc6, hQ6, l6, y6, z6⟩, st6⟩ := X5.specialBack hx (y := (⟨"java/util/Optional", "<init>", "(Ljava/lang/Object;)V"⟩ : MethodName)) rfl hown (mvT hZ (hq hw 252 rfl)) (mvT hZ (hq hw 253 rfl)) (mvT hZ (hq hw 255 rfl)) (by decide) (backOf (W := 1) (rm34 l Z a0 hw [] b1 r0  h1 n0 z2 A1 fa4 g_b1) hZ (hq hw 255 rfl) (hq hw 7 rfl) (by decide) (by decide)) (g := (mkF m 8 #[rv r0] [(.ref r0), (.ref b1), (.ref b1)])) rfl (by rw [hml]; rfl) (Steps.refl _) (a := b1) (argsL := [(.ref r0)]) (rest := [(.ref b1)]) (lenOf pd_10 rfl) rfl (by show 2 * 0 + _ ≤ _; exact Nat.le_of_eq rfl) (hb hby d33_8) (fun _ _ => ⟨rfl, eh5, (by decide : 1 + 0 ≤ _), (by decide : 1 + 0 ≤ _)⟩)
 dsimp only [Pt.U, Pt.locs, Pt.cells, Pt.slots] at X6 l6 y6 z6 st6 hQ6
 subst l6 y6 z6
 obtain ⟨rfl, N6q, K6, A6, F6_0⟩ := hQ6
 have N6 := Fr.app N5 N6q
 have fa7 := A1.keep K6
 have z8 : n0 ≤ T6.heap.size := Nat.le_trans z2 K6.1
 have kp9 : Keep h0 T6.heap [] := kp3.trans K6 (allS (Or.inr sz_b1) all0)
 obtain ⟨fs, hr, hrun, hended, hW, hsame⟩ := X6.leave (v := some (.ref b1)) (fun h => by rw [Bd.returns] at h; cases h)
 refine ⟨_, _, G0 _ ?_, hrun, hended, _, _, rfl, ?_, ⟨_, rfl⟩, hW, hsame.mono (by decide) (by decide)⟩
 ·skip
  refine st1 _ ?_
  refine XS.dup X1.here hx rfl (hb hby d33_3) rfl rfl ?_
  refine XS.aloadN X1.here hx rfl (hb hby d33_4) rfl rfl ?_
  refine st5 _ ?_
  refine st6.trans ?_
  exact retOut X6 hx Bd.returns rfl (Or.inr (Or.inr (Or.inr (Or.inr ⟨rfl, rfl, rfl⟩)))) (hb hby d33_11) hr
 ·show Q33 Z r0 h0 n0 _ T6.heap _
  exact ⟨b1, rfl, N6, kp9, fa7, F6_0⟩
theorem d37_0 : decode jdk_32_method_4_code 0 = .ok (.aload_n 0, 1) := by decide +kernel
theorem d37_1 : decode jdk_32_method_4_code 1 = .ok (.ifnonnull 9, 3) := by decide +kernel
theorem d37_10 : decode jdk_32_method_4_code 10 = .ok (.new 2, 3) := by decide +kernel
theorem d37_13 : decode jdk_32_method_4_code 13 = .ok (.dup, 1) := by decide +kernel
theorem d37_14 : decode jdk_32_method_4_code 14 = .ok (.aload_n 0, 1) := by decide +kernel
theorem d37_15 : decode jdk_32_method_4_code 15 = .ok (.invokespecial 23, 3) := by decide +kernel
theorem d37_18 : decode jdk_32_method_4_code 18 = .ok (.areturn, 1) := by decide +kernel
def Q37 (Z : State) (r0 : Addr) (h0 : Heap) (n0 : Nat) (v : Option Value) (h : Heap) (L : List Loc) : Prop := ∃ b : Addr, v = some (.ref b) ∧ Fr n0 L ∧ Keep h0 h [] ∧ Exa Z h b "java/util/Optional" ∧ Fld Z h b "java/util/Optional" "value" "Ljava/lang/Object;" (.ref r0)
theorem ef_rm37 (m : MethodId) (x0 : Addr) : entryFrame m #[(.ref x0)] 1 = mkF m 0 #[.val (.ref x0)] [] := by first | (simp [entryFrame, mkF, argsToLocals, Value.category]; done) | rfl
set_option maxRecDepth 65536 in
set_option maxHeartbeats 40000000 in
theorem rm37 (l : Launch) (Z : State) (a0 : Array Value) (hw : ∀ d ∈ tables_1, d.before a0 Z = true) (ws : List Jvm.Cond) (r0 : Addr) (h0 : Heap) (n0 : Nat) (Z0 : n0 ≤ h0.size) :
  MetFree l (⟨"java/util/Optional", "ofNullable", "(Ljava/lang/Object;)Ljava/util/Optional;"⟩ : MethodName) (head1 (Jvm.Cond.code (⟨"java/util/Optional", "ofNullable", "(Ljava/lang/Object;)Ljava/util/Optional;"⟩ : MethodName) jdk_32_method_4_code 1 (some (.object "java/util/Optional")) :: ws) ({ frames := 2, cells := 1, slots := 1, locals := 26 } : Room)) (fun a U => a = #[(.ref r0)] ∧ Z.Warmed39 U.vm ∧ U.heap = h0) (fun _ _ _ _ _ => True) (fun _ U o U' => ∃ v L, o = .returned v ∧ Q37 Z r0 h0 n0 v U'.heap L ∧ FrameEnd U o U' L ({ frames := 2, cells := 1, slots := 1, locals := 26 } : Room).cells ({ frames := 2, cells := 1, slots := 1, locals := 26 } : Room).slots) := by
 refine MetFree.of_bodySF (plainFor_of_name pnc_java_util_Optional) hisR ?_
 intro p e s m args below meth c s₁ Bd hml0 hP hK
 obtain ⟨rfl, hZ, hh⟩ := hP
 have hx := Bd.exec
 have hby := Bd.bytes
 have hml : c.maxLocals = 1 := hml0
 have hown : s.vm.findClass "java/util/Optional" = some m.cls := findClass_of_methodNamed Bd.named
 have hnm := (name_of_methodNamed Bd.named Bd.method).1
 have X0 : Stand p l e ({ frames := 2, cells := 1, slots := 1, locals := 26 } : Room) s m #[(.ref r0)] below meth c s₁ [] 0 0 := Stand.of_body Bd
 have e0 : s₁.heap = h0 := by rw [← hh, Bd.state]; rfl
 have N0 := Fr.nil n0
 have kp0 : Keep h0 h0 [] := Keep.refl _ _
 have G0 : ∀ t, Steps p.tables e below (s₁.setTop (mkF m 0 #[rv r0] [])) t → Steps p.tables e below (s₁.setTop (entryFrame m #[(.ref r0)] 1)) t := fun t k => castTop (ef_rm37 m r0) k
 obtain ⟨T1, h1, X1, e1, E1, A1, D1, -, st1⟩ := newO X0 hx hZ hown (hq hw 250 rfl) (hq hw 251 rfl) (hq hw 7 rfl) e0 (g := (mkF m 10 #[rv r0] [])) rfl (hb hby d37_10) (by decide) (by decide)
 obtain ⟨b1, g1⟩ : ∃ z, z = h0.size := ⟨_, rfl⟩
 rw [← g1] at A1 D1 st1
 have g_b1 : n0 ≤ b1 := Nat.le_trans Z0 (Nat.le_of_eq g1.symm)
 have sz_b1 : h0.size ≤ b1 := Nat.le_trans kp0.1 (Nat.le_of_eq g1.symm)
 have z2 : n0 ≤ h1.size := Nat.le_trans Z0 E1.1
 have kp3 : Keep h0 h1 [] := kp0.ext E1
 have fa4 : Fld Z h1 b1 "java/util/Optional" "value" "Ljava/lang/Object;" .null := D1 (Or.inr (hq hw 206 rfl)) (ty := (.object "java/lang/Object")) (by decide)
 obtain ⟨_, _, ⟨T5, L5, k5, n5⟩, -, X5, ⟨Lc5, hQ5, l5, y5, z5⟩, st5⟩ := X1.specialBack hx (y := (⟨"java/util/Optional", "<init>", "(Ljava/lang/Object;)V"⟩ : MethodName)) rfl hown (mvT hZ (hq hw 252 rfl)) (mvT hZ (hq hw 253 rfl)) (mvT hZ (hq hw 255 rfl)) (by decide) (backOf (W := 1) (rm34 l Z a0 hw [] b1 r0  h1 n0 z2 A1 fa4 g_b1) hZ (hq hw 255 rfl) (hq hw 7 rfl) (by decide) (by decide)) (g := (mkF m 15 #[rv r0] [(.ref r0), (.ref b1), (.ref b1)])) rfl (by rw [hml]; rfl) (Steps.refl _) (a := b1) (argsL := [(.ref r0)]) (rest := [(.ref b1)]) (lenOf pd_10 rfl) rfl (by show 2 * 0 + _ ≤ _; exact Nat.le_of_eq rfl) (hb hby d37_15) (fun _ _ => ⟨rfl, e1, (by decide : 1 + 0 ≤ _), (by decide : 1 + 0 ≤ _)⟩)
 dsimp only [Pt.U, Pt.locs, Pt.cells, Pt.slots] at X5 l5 y5 z5 st5 hQ5
 subst l5 y5 z5
 obtain ⟨rfl, N5q, K5, A5, F5_0⟩ := hQ5
 have N5 := Fr.app N0 N5q
 have fa6 := A1.keep K5
 have z7 : n0 ≤ T5.heap.size := Nat.le_trans z2 K5.1
 have kp8 : Keep h0 T5.heap [] := kp3.trans K5 (allS (Or.inr sz_b1) all0)
 obtain ⟨fs, hr, hrun, hended, hW, hsame⟩ := X5.leave (v := some (.ref b1)) (fun h => by rw [Bd.returns] at h; cases h)
 refine ⟨_, _, G0 _ ?_, hrun, hended, _, _, rfl, ?_, ⟨_, rfl⟩, hW, hsame.mono (by decide) (by decide)⟩
 ·skip
  refine XS.aloadN X0.here hx rfl (hb hby d37_0) rfl rfl ?_
  refine XS.ifnonnullYes X0.here hx rfl (pc0 := 1) (pc' := 10) rfl (hb hby d37_1) rfl (by decide) (by decide) ?_
  refine st1 _ ?_
  refine XS.dup X1.here hx rfl (hb hby d37_13) rfl rfl ?_
  refine XS.aloadN X1.here hx rfl (hb hby d37_14) rfl rfl ?_
  refine st5.trans ?_
  exact retOut X5 hx Bd.returns rfl (Or.inr (Or.inr (Or.inr (Or.inr ⟨rfl, rfl, rfl⟩)))) (hb hby d37_18) hr
 ·show Q37 Z r0 h0 n0 _ T5.heap _
  exact ⟨b1, rfl, N5, kp8, fa6, F5_0⟩
theorem d1_0 : decode jdk_32_method_1_code 0 = .ok (.getstatic 1, 3) := by decide +kernel
theorem d1_3 : decode jdk_32_method_1_code 3 = .ok (.astore_n 0, 1) := by decide +kernel
theorem d1_4 : decode jdk_32_method_1_code 4 = .ok (.aload_n 0, 1) := by decide +kernel
theorem d1_5 : decode jdk_32_method_1_code 5 = .ok (.areturn, 1) := by decide +kernel
def Q1 (Z : State) (eN eA eC ps crr ads sw oe efd rfd eyr ryr bt bf ic : Addr) (ksw : ClassId) (h0 : Heap) (n0 : Nat) (v : Option Value) (h : Heap) (L : List Loc) : Prop := v = some (.ref oe) ∧ Fr n0 L ∧ h = h0
theorem ef_rm1 (m : MethodId)  : entryFrame m #[] 1 = mkF m 0 #[.unset] [] := by first | (simp [entryFrame, mkF, argsToLocals, Value.category]; done) | rfl
set_option maxRecDepth 65536 in
set_option maxHeartbeats 40000000 in
theorem rm1 (l : Launch) (Z : State) (a0 : Array Value) (hw : ∀ d ∈ tables_1, d.before a0 Z = true) (ws : List Jvm.Cond) (eN eA eC ps crr ads sw oe efd rfd eyr ryr bt bf ic : Addr) (ksw : ClassId) (h0 : Heap) (n0 : Nat) (Z0 : n0 ≤ h0.size) (O0 : Old Z n0 h0) (SS : Stw Z eN eA eC ps crr ads sw oe efd rfd eyr ryr bt bf ic ksw) :
  MetFree l (⟨"java/util/Optional", "empty", "()Ljava/util/Optional;"⟩ : MethodName) (head1 (Jvm.Cond.code (⟨"java/util/Optional", "empty", "()Ljava/util/Optional;"⟩ : MethodName) jdk_32_method_1_code 1 (some (.object "java/util/Optional")) :: ws) ({ frames := 0, cells := 0, slots := 0, locals := 0 } : Room)) (fun a U => a = #[] ∧ Z.Warmed39 U.vm ∧ U.heap = h0) (fun _ _ _ _ _ => True) (fun _ U o U' => ∃ v L, o = .returned v ∧ Q1 Z eN eA eC ps crr ads sw oe efd rfd eyr ryr bt bf ic ksw h0 n0 v U'.heap L ∧ FrameEnd U o U' L ({ frames := 0, cells := 0, slots := 0, locals := 0 } : Room).cells ({ frames := 0, cells := 0, slots := 0, locals := 0 } : Room).slots) := by
 refine MetFree.of_bodySF (plainFor_of_name pnc_java_util_Optional) hisR ?_
 intro p e s m args below meth c s₁ Bd hml0 hP hK
 obtain ⟨rfl, hZ, hh⟩ := hP
 have hx := Bd.exec
 have hby := Bd.bytes
 have hml : c.maxLocals = 1 := hml0
 have hown : s.vm.findClass "java/util/Optional" = some m.cls := findClass_of_methodNamed Bd.named
 have hnm := (name_of_methodNamed Bd.named Bd.method).1
 have X0 : Stand p l e ({ frames := 0, cells := 0, slots := 0, locals := 0 } : Room) s m #[] below meth c s₁ [] 0 0 := Stand.of_body Bd
 have e0 : s₁.heap = h0 := by rw [← hh, Bd.state]; rfl
 have N0 := Fr.nil n0
 have kp0 : Keep h0 h0 [] := Keep.refl _ _
 have G0 : ∀ t, Steps p.tables e below (s₁.setTop (mkF m 0 #[.unset] [])) t → Steps p.tables e below (s₁.setTop (entryFrame m #[] 1)) t := fun t k => castTop (ef_rm1 m ) k
 obtain ⟨T1, X1, e1, st1⟩ := getS2 X0 hx hZ hown (host := "") (Or.inl (hq hw 9 rfl)) Via.refl e0 (SS.2.2.2.2.2.2.2.1.ext O0.2) (g := (mkF m 0 #[.unset] [])) rfl (hb hby d1_0)
 obtain ⟨fs, hr, hrun, hended, hW, hsame⟩ := X1.leave (v := some (.ref oe)) (fun h => by rw [Bd.returns] at h; cases h)
 refine ⟨_, _, G0 _ ?_, hrun, hended, _, _, rfl, ?_, ⟨_, rfl⟩, hW, hsame.mono (by decide) (by decide)⟩
 ·skip
  refine st1 _ ?_
  refine XS.astoreN X1.here hx rfl (hb hby d1_3) rfl rfl (l' := #[rv oe]) rfl ?_
  refine XS.aloadN X1.here hx rfl (hb hby d1_4) rfl rfl ?_
  exact retOut X1 hx Bd.returns rfl (Or.inr (Or.inr (Or.inr (Or.inr ⟨rfl, rfl, rfl⟩)))) (hb hby d1_5) hr
 ·show Q1 Z eN eA eC ps crr ads sw oe efd rfd eyr ryr bt bf ic ksw h0 n0 _ T1.heap _
  rw [e1]
  exact ⟨rfl, N0, rfl⟩
theorem d27_0 : decode jdk_32_method_7_code 0 = .ok (.aload_n 0, 1) := by decide +kernel
theorem d27_1 : decode jdk_32_method_7_code 1 = .ok (.getfield 13, 3) := by decide +kernel
theorem d27_4 : decode jdk_32_method_7_code 4 = .ok (.ifnonnull 7, 3) := by decide +kernel
theorem d27_7 : decode jdk_32_method_7_code 7 = .ok (.iconst 1, 1) := by decide +kernel
theorem d27_8 : decode jdk_32_method_7_code 8 = .ok (.goto 4, 3) := by decide +kernel
theorem d27_12 : decode jdk_32_method_7_code 12 = .ok (.ireturn, 1) := by decide +kernel
def QOisEmpty1 (Z : State) (r0 : Addr) (h0 : Heap) (n0 : Nat) (v : Option Value) (h : Heap) (L : List Loc) : Prop := v = some (.int (1 : Int32)) ∧ Fr n0 L ∧ h = h0
theorem ef_rmOisEmpty1 (m : MethodId) (x0 : Addr) : entryFrame m #[(.ref x0)] 1 = mkF m 0 #[.val (.ref x0)] [] := by first | (simp [entryFrame, mkF, argsToLocals, Value.category]; done) | rfl
set_option maxRecDepth 65536 in
set_option maxHeartbeats 40000000 in
theorem rmOisEmpty1 (l : Launch) (Z : State) (a0 : Array Value) (hw : ∀ d ∈ tables_1, d.before a0 Z = true) (ws : List Jvm.Cond) (r0 : Addr) (h0 : Heap) (n0 : Nat) (Z0 : n0 ≤ h0.size) (Fv : Fld Z h0 r0 "java/util/Optional" "value" "Ljava/lang/Object;" .null) :
  MetFree l (⟨"java/util/Optional", "isEmpty", "()Z"⟩ : MethodName) (head1 (Jvm.Cond.code (⟨"java/util/Optional", "isEmpty", "()Z"⟩ : MethodName) jdk_32_method_7_code 1 (some .boolean) :: ws) ({ frames := 0, cells := 0, slots := 0, locals := 0 } : Room)) (fun a U => a = #[(.ref r0)] ∧ Z.Warmed39 U.vm ∧ U.heap = h0) (fun _ _ _ _ _ => True) (fun _ U o U' => ∃ v L, o = .returned v ∧ QOisEmpty1 Z r0 h0 n0 v U'.heap L ∧ FrameEnd U o U' L ({ frames := 0, cells := 0, slots := 0, locals := 0 } : Room).cells ({ frames := 0, cells := 0, slots := 0, locals := 0 } : Room).slots) := by
 refine MetFree.of_bodySF (plainFor_of_name pnc_java_util_Optional) hisR ?_
 intro p e s m args below meth c s₁ Bd hml0 hP hK
 obtain ⟨rfl, hZ, hh⟩ := hP
 have hx := Bd.exec
 have hby := Bd.bytes
 have hml : c.maxLocals = 1 := hml0
 have hown : s.vm.findClass "java/util/Optional" = some m.cls := findClass_of_methodNamed Bd.named
 have hnm := (name_of_methodNamed Bd.named Bd.method).1
 have X0 : Stand p l e ({ frames := 0, cells := 0, slots := 0, locals := 0 } : Room) s m #[(.ref r0)] below meth c s₁ [] 0 0 := Stand.of_body Bd
 have e0 : s₁.heap = h0 := by rw [← hh, Bd.state]; rfl
 have N0 := Fr.nil n0
 have kp0 : Keep h0 h0 [] := Keep.refl _ _
 have G0 : ∀ t, Steps p.tables e below (s₁.setTop (mkF m 0 #[rv r0] [])) t → Steps p.tables e below (s₁.setTop (entryFrame m #[(.ref r0)] 1)) t := fun t k => castTop (ef_rmOisEmpty1 m r0) k
 obtain ⟨T1, X1, e1, st1⟩ := getF X0 hx hZ hown (host := "") (Or.inl (hq hw 205 rfl)) Via.refl e0 Fv (g := (mkF m 1 #[rv r0] [(.ref r0)])) rfl rfl (hb hby d27_1)
 obtain ⟨fs, hr, hrun, hended, hW, hsame⟩ := X1.leave (v := some (.int (1 : Int32))) (fun h => by rw [Bd.returns] at h; cases h)
 refine ⟨_, _, G0 _ ?_, hrun, hended, _, _, rfl, ?_, ⟨_, rfl⟩, hW, hsame.mono (by decide) (by decide)⟩
 ·skip
  refine XS.aloadN X0.here hx rfl (hb hby d27_0) rfl rfl ?_
  refine st1 _ ?_
  refine XS.ifnonnullNo X1.here hx rfl (hb hby d27_4) rfl ?_
  refine XS.iconst X1.here hx rfl (hb hby d27_7) ?_
  refine XS.goto X1.here hx rfl (pc0 := 8) (pc' := 12) rfl (hb hby d27_8) (by decide) (by decide) ?_
  exact retN X1 hx (t := .boolean) Bd.returns (by simp) (hb hby d27_12) hr
 ·show QOisEmpty1 Z r0 h0 n0 _ T1.heap _
  rw [e1]
  exact ⟨rfl, N0, rfl⟩
theorem d27_11 : decode jdk_32_method_7_code 11 = .ok (.iconst 0, 1) := by decide +kernel
def QOisEmpty0 (Z : State) (r0 : Addr) (vo : Addr) (h0 : Heap) (n0 : Nat) (v : Option Value) (h : Heap) (L : List Loc) : Prop := v = some (.int (0 : Int32)) ∧ Fr n0 L ∧ h = h0
theorem ef_rmOisEmpty0 (m : MethodId) (x0 : Addr) : entryFrame m #[(.ref x0)] 1 = mkF m 0 #[.val (.ref x0)] [] := by first | (simp [entryFrame, mkF, argsToLocals, Value.category]; done) | rfl
set_option maxRecDepth 65536 in
set_option maxHeartbeats 40000000 in
theorem rmOisEmpty0 (l : Launch) (Z : State) (a0 : Array Value) (hw : ∀ d ∈ tables_1, d.before a0 Z = true) (ws : List Jvm.Cond) (r0 : Addr) (vo : Addr) (h0 : Heap) (n0 : Nat) (Z0 : n0 ≤ h0.size) (Fv : Fld Z h0 r0 "java/util/Optional" "value" "Ljava/lang/Object;" (.ref vo)) :
  MetFree l (⟨"java/util/Optional", "isEmpty", "()Z"⟩ : MethodName) (head1 (Jvm.Cond.code (⟨"java/util/Optional", "isEmpty", "()Z"⟩ : MethodName) jdk_32_method_7_code 1 (some .boolean) :: ws) ({ frames := 0, cells := 0, slots := 0, locals := 0 } : Room)) (fun a U => a = #[(.ref r0)] ∧ Z.Warmed39 U.vm ∧ U.heap = h0) (fun _ _ _ _ _ => True) (fun _ U o U' => ∃ v L, o = .returned v ∧ QOisEmpty0 Z r0 vo h0 n0 v U'.heap L ∧ FrameEnd U o U' L ({ frames := 0, cells := 0, slots := 0, locals := 0 } : Room).cells ({ frames := 0, cells := 0, slots := 0, locals := 0 } : Room).slots) := by
 refine MetFree.of_bodySF (plainFor_of_name pnc_java_util_Optional) hisR ?_
 intro p e s m args below meth c s₁ Bd hml0 hP hK
 obtain ⟨rfl, hZ, hh⟩ := hP
 have hx := Bd.exec
 have hby := Bd.bytes
 have hml : c.maxLocals = 1 := hml0
 have hown : s.vm.findClass "java/util/Optional" = some m.cls := findClass_of_methodNamed Bd.named
 have hnm := (name_of_methodNamed Bd.named Bd.method).1
 have X0 : Stand p l e ({ frames := 0, cells := 0, slots := 0, locals := 0 } : Room) s m #[(.ref r0)] below meth c s₁ [] 0 0 := Stand.of_body Bd
 have e0 : s₁.heap = h0 := by rw [← hh, Bd.state]; rfl
 have N0 := Fr.nil n0
 have kp0 : Keep h0 h0 [] := Keep.refl _ _
 have G0 : ∀ t, Steps p.tables e below (s₁.setTop (mkF m 0 #[rv r0] [])) t → Steps p.tables e below (s₁.setTop (entryFrame m #[(.ref r0)] 1)) t := fun t k => castTop (ef_rmOisEmpty0 m r0) k
 obtain ⟨T1, X1, e1, st1⟩ := getF X0 hx hZ hown (host := "") (Or.inl (hq hw 205 rfl)) Via.refl e0 Fv (g := (mkF m 1 #[rv r0] [(.ref r0)])) rfl rfl (hb hby d27_1)
 obtain ⟨fs, hr, hrun, hended, hW, hsame⟩ := X1.leave (v := some (.int (0 : Int32))) (fun h => by rw [Bd.returns] at h; cases h)
 refine ⟨_, _, G0 _ ?_, hrun, hended, _, _, rfl, ?_, ⟨_, rfl⟩, hW, hsame.mono (by decide) (by decide)⟩
 ·skip
  refine XS.aloadN X0.here hx rfl (hb hby d27_0) rfl rfl ?_
  refine st1 _ ?_
  refine XS.ifnonnullYes X1.here hx rfl (pc0 := 4) (pc' := 11) rfl (hb hby d27_4) rfl (by decide) (by decide) ?_
  refine XS.iconst X1.here hx rfl (hb hby d27_11) ?_
  exact retN X1 hx (t := .boolean) Bd.returns (by simp) (hb hby d27_12) hr
 ·show QOisEmpty0 Z r0 vo h0 n0 _ T1.heap _
  rw [e1]
  exact ⟨rfl, N0, rfl⟩
theorem d29_0 : decode jdk_32_method_15_code 0 = .ok (.aload_n 0, 1) := by decide +kernel
theorem d29_1 : decode jdk_32_method_15_code 1 = .ok (.getfield 13, 3) := by decide +kernel
theorem d29_4 : decode jdk_32_method_15_code 4 = .ok (.ifnull 10, 3) := by decide +kernel
theorem d29_14 : decode jdk_32_method_15_code 14 = .ok (.aload_n 1, 1) := by decide +kernel
theorem d29_15 : decode jdk_32_method_15_code 15 = .ok (.areturn, 1) := by decide +kernel
def QOorElse1 (Z : State) (r0 : Addr) (r1 : Addr) (h0 : Heap) (n0 : Nat) (v : Option Value) (h : Heap) (L : List Loc) : Prop := v = some (.ref r1) ∧ Fr n0 L ∧ h = h0
theorem ef_rmOorElse1 (m : MethodId) (x0 : Addr) (x1 : Addr) : entryFrame m #[(.ref x0), (.ref x1)] 2 = mkF m 0 #[.val (.ref x0), .val (.ref x1)] [] := by first | (simp [entryFrame, mkF, argsToLocals, Value.category]; done) | rfl
set_option maxRecDepth 65536 in
set_option maxHeartbeats 40000000 in
theorem rmOorElse1 (l : Launch) (Z : State) (a0 : Array Value) (hw : ∀ d ∈ tables_1, d.before a0 Z = true) (ws : List Jvm.Cond) (r0 : Addr) (r1 : Addr) (h0 : Heap) (n0 : Nat) (Z0 : n0 ≤ h0.size) (Fv : Fld Z h0 r0 "java/util/Optional" "value" "Ljava/lang/Object;" .null) :
  MetFree l (⟨"java/util/Optional", "orElse", "(Ljava/lang/Object;)Ljava/lang/Object;"⟩ : MethodName) (head1 (Jvm.Cond.code (⟨"java/util/Optional", "orElse", "(Ljava/lang/Object;)Ljava/lang/Object;"⟩ : MethodName) jdk_32_method_15_code 2 (some (.object "java/lang/Object")) :: ws) ({ frames := 0, cells := 0, slots := 0, locals := 0 } : Room)) (fun a U => a = #[(.ref r0), (.ref r1)] ∧ Z.Warmed39 U.vm ∧ U.heap = h0) (fun _ _ _ _ _ => True) (fun _ U o U' => ∃ v L, o = .returned v ∧ QOorElse1 Z r0 r1 h0 n0 v U'.heap L ∧ FrameEnd U o U' L ({ frames := 0, cells := 0, slots := 0, locals := 0 } : Room).cells ({ frames := 0, cells := 0, slots := 0, locals := 0 } : Room).slots) := by
 refine MetFree.of_bodySF (plainFor_of_name pnc_java_util_Optional) hisR ?_
 intro p e s m args below meth c s₁ Bd hml0 hP hK
 obtain ⟨rfl, hZ, hh⟩ := hP
 have hx := Bd.exec
 have hby := Bd.bytes
 have hml : c.maxLocals = 2 := hml0
 have hown : s.vm.findClass "java/util/Optional" = some m.cls := findClass_of_methodNamed Bd.named
 have hnm := (name_of_methodNamed Bd.named Bd.method).1
 have X0 : Stand p l e ({ frames := 0, cells := 0, slots := 0, locals := 0 } : Room) s m #[(.ref r0), (.ref r1)] below meth c s₁ [] 0 0 := Stand.of_body Bd
 have e0 : s₁.heap = h0 := by rw [← hh, Bd.state]; rfl
 have N0 := Fr.nil n0
 have kp0 : Keep h0 h0 [] := Keep.refl _ _
 have G0 : ∀ t, Steps p.tables e below (s₁.setTop (mkF m 0 #[rv r0, rv r1] [])) t → Steps p.tables e below (s₁.setTop (entryFrame m #[(.ref r0), (.ref r1)] 2)) t := fun t k => castTop (ef_rmOorElse1 m r0 r1) k
 obtain ⟨T1, X1, e1, st1⟩ := getF X0 hx hZ hown (host := "") (Or.inl (hq hw 205 rfl)) Via.refl e0 Fv (g := (mkF m 1 #[rv r0, rv r1] [(.ref r0)])) rfl rfl (hb hby d29_1)
 obtain ⟨fs, hr, hrun, hended, hW, hsame⟩ := X1.leave (v := some (.ref r1)) (fun h => by rw [Bd.returns] at h; cases h)
 refine ⟨_, _, G0 _ ?_, hrun, hended, _, _, rfl, ?_, ⟨_, rfl⟩, hW, hsame.mono (by decide) (by decide)⟩
 ·skip
  refine XS.aloadN X0.here hx rfl (hb hby d29_0) rfl rfl ?_
  refine st1 _ ?_
  refine XS.ifnullYes X1.here hx rfl (pc0 := 4) (pc' := 14) rfl (hb hby d29_4) rfl (by decide) (by decide) ?_
  refine XS.aloadN X1.here hx rfl (hb hby d29_14) rfl rfl ?_
  exact retOut X1 hx Bd.returns rfl (Or.inr (Or.inr (Or.inr (Or.inr ⟨rfl, rfl, rfl⟩)))) (hb hby d29_15) hr
 ·show QOorElse1 Z r0 r1 h0 n0 _ T1.heap _
  rw [e1]
  exact ⟨rfl, N0, rfl⟩
theorem d29_7 : decode jdk_32_method_15_code 7 = .ok (.aload_n 0, 1) := by decide +kernel
theorem d29_8 : decode jdk_32_method_15_code 8 = .ok (.getfield 13, 3) := by decide +kernel
theorem d29_11 : decode jdk_32_method_15_code 11 = .ok (.goto 4, 3) := by decide +kernel
def QOorElse0 (Z : State) (r0 : Addr) (r1 : Addr) (vo : Addr) (h0 : Heap) (n0 : Nat) (v : Option Value) (h : Heap) (L : List Loc) : Prop := v = some (.ref vo) ∧ Fr n0 L ∧ h = h0
theorem ef_rmOorElse0 (m : MethodId) (x0 : Addr) (x1 : Addr) : entryFrame m #[(.ref x0), (.ref x1)] 2 = mkF m 0 #[.val (.ref x0), .val (.ref x1)] [] := by first | (simp [entryFrame, mkF, argsToLocals, Value.category]; done) | rfl
set_option maxRecDepth 65536 in
set_option maxHeartbeats 40000000 in
theorem rmOorElse0 (l : Launch) (Z : State) (a0 : Array Value) (hw : ∀ d ∈ tables_1, d.before a0 Z = true) (ws : List Jvm.Cond) (r0 : Addr) (r1 : Addr) (vo : Addr) (h0 : Heap) (n0 : Nat) (Z0 : n0 ≤ h0.size) (Fv : Fld Z h0 r0 "java/util/Optional" "value" "Ljava/lang/Object;" (.ref vo)) :
  MetFree l (⟨"java/util/Optional", "orElse", "(Ljava/lang/Object;)Ljava/lang/Object;"⟩ : MethodName) (head1 (Jvm.Cond.code (⟨"java/util/Optional", "orElse", "(Ljava/lang/Object;)Ljava/lang/Object;"⟩ : MethodName) jdk_32_method_15_code 2 (some (.object "java/lang/Object")) :: ws) ({ frames := 0, cells := 0, slots := 0, locals := 0 } : Room)) (fun a U => a = #[(.ref r0), (.ref r1)] ∧ Z.Warmed39 U.vm ∧ U.heap = h0) (fun _ _ _ _ _ => True) (fun _ U o U' => ∃ v L, o = .returned v ∧ QOorElse0 Z r0 r1 vo h0 n0 v U'.heap L ∧ FrameEnd U o U' L ({ frames := 0, cells := 0, slots := 0, locals := 0 } : Room).cells ({ frames := 0, cells := 0, slots := 0, locals := 0 } : Room).slots) := by
 refine MetFree.of_bodySF (plainFor_of_name pnc_java_util_Optional) hisR ?_
 intro p e s m args below meth c s₁ Bd hml0 hP hK
 obtain ⟨rfl, hZ, hh⟩ := hP
 have hx := Bd.exec
 have hby := Bd.bytes
 have hml : c.maxLocals = 2 := hml0
 have hown : s.vm.findClass "java/util/Optional" = some m.cls := findClass_of_methodNamed Bd.named
 have hnm := (name_of_methodNamed Bd.named Bd.method).1
 have X0 : Stand p l e ({ frames := 0, cells := 0, slots := 0, locals := 0 } : Room) s m #[(.ref r0), (.ref r1)] below meth c s₁ [] 0 0 := Stand.of_body Bd
 have e0 : s₁.heap = h0 := by rw [← hh, Bd.state]; rfl
 have N0 := Fr.nil n0
 have kp0 : Keep h0 h0 [] := Keep.refl _ _
 have G0 : ∀ t, Steps p.tables e below (s₁.setTop (mkF m 0 #[rv r0, rv r1] [])) t → Steps p.tables e below (s₁.setTop (entryFrame m #[(.ref r0), (.ref r1)] 2)) t := fun t k => castTop (ef_rmOorElse0 m r0 r1) k
 obtain ⟨T1, X1, e1, st1⟩ := getF X0 hx hZ hown (host := "") (Or.inl (hq hw 205 rfl)) Via.refl e0 Fv (g := (mkF m 1 #[rv r0, rv r1] [(.ref r0)])) rfl rfl (hb hby d29_1)
 obtain ⟨T2, X2, e2, st2⟩ := getF X1 hx hZ hown (host := "") (Or.inl (hq hw 205 rfl)) Via.refl e1 Fv (g := (mkF m 8 #[rv r0, rv r1] [(.ref r0)])) rfl rfl (hb hby d29_8)
 obtain ⟨fs, hr, hrun, hended, hW, hsame⟩ := X2.leave (v := some (.ref vo)) (fun h => by rw [Bd.returns] at h; cases h)
 refine ⟨_, _, G0 _ ?_, hrun, hended, _, _, rfl, ?_, ⟨_, rfl⟩, hW, hsame.mono (by decide) (by decide)⟩
 ·skip
  refine XS.aloadN X0.here hx rfl (hb hby d29_0) rfl rfl ?_
  refine st1 _ ?_
  refine XS.ifnullNo X1.here hx rfl (hb hby d29_4) rfl ?_
  refine XS.aloadN X1.here hx rfl (hb hby d29_7) rfl rfl ?_
  refine st2 _ ?_
  refine XS.goto X2.here hx rfl (pc0 := 11) (pc' := 15) rfl (hb hby d29_11) (by decide) (by decide) ?_
  exact retOut X2 hx Bd.returns rfl (Or.inr (Or.inr (Or.inr (Or.inr ⟨rfl, rfl, rfl⟩)))) (hb hby d29_15) hr
 ·show QOorElse0 Z r0 r1 vo h0 n0 _ T2.heap _
  rw [e2]
  exact ⟨rfl, N0, rfl⟩
theorem d38_0 : decode jdk_32_method_17_code 0 = .ok (.aload_n 0, 1) := by decide +kernel
theorem d38_1 : decode jdk_32_method_17_code 1 = .ok (.getfield 13, 3) := by decide +kernel
theorem d38_4 : decode jdk_32_method_17_code 4 = .ok (.ifnonnull 13, 3) := by decide +kernel
theorem d38_17 : decode jdk_32_method_17_code 17 = .ok (.aload_n 0, 1) := by decide +kernel
theorem d38_18 : decode jdk_32_method_17_code 18 = .ok (.getfield 13, 3) := by decide +kernel
theorem d38_21 : decode jdk_32_method_17_code 21 = .ok (.areturn, 1) := by decide +kernel
def QOorElseThrow0 (Z : State) (r0 : Addr) (vo : Addr) (h0 : Heap) (n0 : Nat) (v : Option Value) (h : Heap) (L : List Loc) : Prop := v = some (.ref vo) ∧ Fr n0 L ∧ h = h0
theorem ef_rmOorElseThrow0 (m : MethodId) (x0 : Addr) : entryFrame m #[(.ref x0)] 1 = mkF m 0 #[.val (.ref x0)] [] := by first | (simp [entryFrame, mkF, argsToLocals, Value.category]; done) | rfl
set_option maxRecDepth 65536 in
set_option maxHeartbeats 40000000 in
theorem rmOorElseThrow0 (l : Launch) (Z : State) (a0 : Array Value) (hw : ∀ d ∈ tables_1, d.before a0 Z = true) (ws : List Jvm.Cond) (r0 : Addr) (vo : Addr) (h0 : Heap) (n0 : Nat) (Z0 : n0 ≤ h0.size) (Fv : Fld Z h0 r0 "java/util/Optional" "value" "Ljava/lang/Object;" (.ref vo)) :
  MetFree l (⟨"java/util/Optional", "orElseThrow", "()Ljava/lang/Object;"⟩ : MethodName) (head1 (Jvm.Cond.code (⟨"java/util/Optional", "orElseThrow", "()Ljava/lang/Object;"⟩ : MethodName) jdk_32_method_17_code 1 (some (.object "java/lang/Object")) :: ws) ({ frames := 0, cells := 0, slots := 0, locals := 0 } : Room)) (fun a U => a = #[(.ref r0)] ∧ Z.Warmed39 U.vm ∧ U.heap = h0) (fun _ _ _ _ _ => True) (fun _ U o U' => ∃ v L, o = .returned v ∧ QOorElseThrow0 Z r0 vo h0 n0 v U'.heap L ∧ FrameEnd U o U' L ({ frames := 0, cells := 0, slots := 0, locals := 0 } : Room).cells ({ frames := 0, cells := 0, slots := 0, locals := 0 } : Room).slots) := by
 refine MetFree.of_bodySF (plainFor_of_name pnc_java_util_Optional) hisR ?_
 intro p e s m args below meth c s₁ Bd hml0 hP hK
 obtain ⟨rfl, hZ, hh⟩ := hP
 have hx := Bd.exec
 have hby := Bd.bytes
 have hml : c.maxLocals = 1 := hml0
 have hown : s.vm.findClass "java/util/Optional" = some m.cls := findClass_of_methodNamed Bd.named
 have hnm := (name_of_methodNamed Bd.named Bd.method).1
 have X0 : Stand p l e ({ frames := 0, cells := 0, slots := 0, locals := 0 } : Room) s m #[(.ref r0)] below meth c s₁ [] 0 0 := Stand.of_body Bd
 have e0 : s₁.heap = h0 := by rw [← hh, Bd.state]; rfl
 have N0 := Fr.nil n0
 have kp0 : Keep h0 h0 [] := Keep.refl _ _
 have G0 : ∀ t, Steps p.tables e below (s₁.setTop (mkF m 0 #[rv r0] [])) t → Steps p.tables e below (s₁.setTop (entryFrame m #[(.ref r0)] 1)) t := fun t k => castTop (ef_rmOorElseThrow0 m r0) k
 obtain ⟨T1, X1, e1, st1⟩ := getF X0 hx hZ hown (host := "") (Or.inl (hq hw 205 rfl)) Via.refl e0 Fv (g := (mkF m 1 #[rv r0] [(.ref r0)])) rfl rfl (hb hby d38_1)
 obtain ⟨T2, X2, e2, st2⟩ := getF X1 hx hZ hown (host := "") (Or.inl (hq hw 205 rfl)) Via.refl e1 Fv (g := (mkF m 18 #[rv r0] [(.ref r0)])) rfl rfl (hb hby d38_18)
 obtain ⟨fs, hr, hrun, hended, hW, hsame⟩ := X2.leave (v := some (.ref vo)) (fun h => by rw [Bd.returns] at h; cases h)
 refine ⟨_, _, G0 _ ?_, hrun, hended, _, _, rfl, ?_, ⟨_, rfl⟩, hW, hsame.mono (by decide) (by decide)⟩
 ·skip
  refine XS.aloadN X0.here hx rfl (hb hby d38_0) rfl rfl ?_
  refine st1 _ ?_
  refine XS.ifnonnullYes X1.here hx rfl (pc0 := 4) (pc' := 17) rfl (hb hby d38_4) rfl (by decide) (by decide) ?_
  refine XS.aloadN X1.here hx rfl (hb hby d38_17) rfl rfl ?_
  refine st2 _ ?_
  exact retOut X2 hx Bd.returns rfl (Or.inr (Or.inr (Or.inr (Or.inr ⟨rfl, rfl, rfl⟩)))) (hb hby d38_21) hr
 ·show QOorElseThrow0 Z r0 vo h0 n0 _ T2.heap _
  rw [e2]
  exact ⟨rfl, N0, rfl⟩
theorem d28_0 : decode jdk_2055_method_5_code 0 = .ok (.iload_n 0, 1) := by decide +kernel
theorem d28_1 : decode jdk_2055_method_5_code 1 = .ok (.ifCond .eq 9, 3) := by decide +kernel
theorem d28_10 : decode jdk_2055_method_5_code 10 = .ok (.getstatic 31, 3) := by decide +kernel
theorem d28_13 : decode jdk_2055_method_5_code 13 = .ok (.areturn, 1) := by decide +kernel
theorem d28_4 : decode jdk_2055_method_5_code 4 = .ok (.getstatic 27, 3) := by decide +kernel
theorem d28_7 : decode jdk_2055_method_5_code 7 = .ok (.goto 6, 3) := by decide +kernel
def own_bo (p0 : Int32) (bt bf : Addr) : Addr := if p0 = (0 : Int32) then (bf) else (bt)
def Q28 (Z : State) (p0 : Int32) (eN eA eC ps crr ads sw oe efd rfd eyr ryr bt bf ic : Addr) (ksw : ClassId) (h0 : Heap) (n0 : Nat) (v : Option Value) (h : Heap) (L : List Loc) : Prop := v = some (.ref (own_bo p0 bt bf)) ∧ Fr n0 L ∧ h = h0
theorem ef_rm28 (m : MethodId) (x0 : Int32) : entryFrame m #[(.int x0)] 1 = mkF m 0 #[.val (.int x0)] [] := by first | (simp [entryFrame, mkF, argsToLocals, Value.category]; done) | rfl
theorem pnc_java_lang_Boolean : plainName "java/lang/Boolean" = true := by first | (simp [plainName, overriddenIn]; done) | decide +kernel
set_option maxRecDepth 65536 in
set_option maxHeartbeats 40000000 in
theorem rm28 (l : Launch) (Z : State) (a0 : Array Value) (hw : ∀ d ∈ tables_1, d.before a0 Z = true) (ws : List Jvm.Cond) (p0 : Int32) (eN eA eC ps crr ads sw oe efd rfd eyr ryr bt bf ic : Addr) (ksw : ClassId) (h0 : Heap) (n0 : Nat) (Z0 : n0 ≤ h0.size) (O0 : Old Z n0 h0) (SS : Stw Z eN eA eC ps crr ads sw oe efd rfd eyr ryr bt bf ic ksw) :
  MetFree l (⟨"java/lang/Boolean", "valueOf", "(Z)Ljava/lang/Boolean;"⟩ : MethodName) (head1 (Jvm.Cond.code (⟨"java/lang/Boolean", "valueOf", "(Z)Ljava/lang/Boolean;"⟩ : MethodName) jdk_2055_method_5_code 1 (some (.object "java/lang/Boolean")) :: ws) ({ frames := 0, cells := 0, slots := 0, locals := 0 } : Room)) (fun a U => a = #[(.int p0)] ∧ Z.Warmed39 U.vm ∧ U.heap = h0) (fun _ _ _ _ _ => True) (fun _ U o U' => ∃ v L, o = .returned v ∧ Q28 Z p0 eN eA eC ps crr ads sw oe efd rfd eyr ryr bt bf ic ksw h0 n0 v U'.heap L ∧ FrameEnd U o U' L ({ frames := 0, cells := 0, slots := 0, locals := 0 } : Room).cells ({ frames := 0, cells := 0, slots := 0, locals := 0 } : Room).slots) := by
 refine MetFree.of_bodySF (plainFor_of_name pnc_java_lang_Boolean) hisR ?_
 intro p e s m args below meth c s₁ Bd hml0 hP hK
 obtain ⟨rfl, hZ, hh⟩ := hP
 have hx := Bd.exec
 have hby := Bd.bytes
 have hml : c.maxLocals = 1 := hml0
 have hown : s.vm.findClass "java/lang/Boolean" = some m.cls := findClass_of_methodNamed Bd.named
 have hnm := (name_of_methodNamed Bd.named Bd.method).1
 have X0 : Stand p l e ({ frames := 0, cells := 0, slots := 0, locals := 0 } : Room) s m #[(.int p0)] below meth c s₁ [] 0 0 := Stand.of_body Bd
 have e0 : s₁.heap = h0 := by rw [← hh, Bd.state]; rfl
 have N0 := Fr.nil n0
 have kp0 : Keep h0 h0 [] := Keep.refl _ _
 have G0 : ∀ t, Steps p.tables e below (s₁.setTop (mkF m 0 #[iv p0] [])) t → Steps p.tables e below (s₁.setTop (entryFrame m #[(.int p0)] 1)) t := fun t k => castTop (ef_rm28 m p0) k
 have G1 : ∀ t, Steps p.tables e below (s₁.setTop (mkF m 1 #[iv p0] [(.int p0)])) t → Steps p.tables e below (s₁.setTop (entryFrame m #[(.int p0)] 1)) t := by
  intro t kt
  refine G0 _ ?_
  refine XS.iloadN X0.here hx rfl (hb hby d28_0) rfl ?_
  exact kt
 by_cases hc1_2 : p0 = (0 : Int32)
 ·skip
  obtain ⟨T3, X3, e3, st3⟩ := getS2 X0 hx hZ hown (host := "") (Or.inl (hq hw 212 rfl)) Via.refl e0 (SS.2.2.2.2.2.2.2.2.2.2.2.1.ext O0.2) (g := (mkF m 10 #[iv p0] [])) rfl (hb hby d28_10)
  obtain ⟨fs, hr, hrun, hended, hW, hsame⟩ := X3.leave (v := some (.ref bf)) (fun h => by rw [Bd.returns] at h; cases h)
  refine ⟨_, _, G1 _ ?_, hrun, hended, _, _, rfl, ?_, ⟨_, rfl⟩, hW, hsame.mono (by decide) (by decide)⟩
  ·skip
   refine XS.ifYes X0.here hx rfl (pc0 := 1) (pc' := 10) rfl (hb hby d28_1) rfl ((if0 _ _).trans (teq hc1_2).1) (by decide) (by decide) ?_
   refine st3 _ ?_
   exact retOut X3 hx Bd.returns rfl (Or.inr (Or.inr (Or.inr (Or.inr ⟨rfl, rfl, rfl⟩)))) (hb hby d28_13) hr
  ·show Q28 Z p0 eN eA eC ps crr ads sw oe efd rfd eyr ryr bt bf ic ksw h0 n0 _ T3.heap _
   rw [e3]
   exact ⟨by rw [own_bo, if_pos hc1_2], N0, rfl⟩
 ·skip
  obtain ⟨T4, X4, e4, st4⟩ := getS2 X0 hx hZ hown (host := "") (Or.inl (hq hw 273 rfl)) Via.refl e0 (SS.2.2.2.2.2.2.2.2.2.2.1.ext O0.2) (g := (mkF m 4 #[iv p0] [])) rfl (hb hby d28_4)
  obtain ⟨fs, hr, hrun, hended, hW, hsame⟩ := X4.leave (v := some (.ref bt)) (fun h => by rw [Bd.returns] at h; cases h)
  refine ⟨_, _, G1 _ ?_, hrun, hended, _, _, rfl, ?_, ⟨_, rfl⟩, hW, hsame.mono (by decide) (by decide)⟩
  ·skip
   refine XS.ifNo X0.here hx rfl (hb hby d28_1) rfl ((if0 _ _).trans (feq hc1_2).1) ?_
   refine st4 _ ?_
   refine XS.goto X4.here hx rfl (pc0 := 7) (pc' := 13) rfl (hb hby d28_7) (by decide) (by decide) ?_
   exact retOut X4 hx Bd.returns rfl (Or.inr (Or.inr (Or.inr (Or.inr ⟨rfl, rfl, rfl⟩)))) (hb hby d28_13) hr
  ·show Q28 Z p0 eN eA eC ps crr ads sw oe efd rfd eyr ryr bt bf ic ksw h0 n0 _ T4.heap _
   rw [e4]
   exact ⟨by rw [own_bo, if_neg hc1_2], N0, rfl⟩
theorem own_bo0 (bt bf : Addr) : own_bo (0 : Int32) bt bf = bf := by rw [own_bo, if_pos rfl]
theorem own_bo1 (bt bf : Addr) : own_bo (1 : Int32) bt bf = bt := by rw [own_bo, if_neg (by decide)]
theorem d30_0 : decode jdk_2055_method_4_code 0 = .ok (.aload_n 0, 1) := by decide +kernel
theorem d30_1 : decode jdk_2055_method_4_code 1 = .ok (.getfield 7, 3) := by decide +kernel
theorem d30_4 : decode jdk_2055_method_4_code 4 = .ok (.ireturn, 1) := by decide +kernel
def Q30 (Z : State) (r0 : Addr) (cb : Int32) (h0 : Heap) (n0 : Nat) (v : Option Value) (h : Heap) (L : List Loc) : Prop := v = some (.int cb) ∧ Fr n0 L ∧ h = h0
theorem ef_rm30 (m : MethodId) (x0 : Addr) : entryFrame m #[(.ref x0)] 1 = mkF m 0 #[.val (.ref x0)] [] := by first | (simp [entryFrame, mkF, argsToLocals, Value.category]; done) | rfl
set_option maxRecDepth 65536 in
set_option maxHeartbeats 40000000 in
theorem rm30 (l : Launch) (Z : State) (a0 : Array Value) (hw : ∀ d ∈ tables_1, d.before a0 Z = true) (ws : List Jvm.Cond) (r0 : Addr) (cb : Int32) (h0 : Heap) (n0 : Nat) (Z0 : n0 ≤ h0.size) (Fv : Fld Z h0 r0 "java/lang/Boolean" "value" "Z" (.int cb)) (hcb : cb = 0 ∨ cb = 1) :
  MetFree l (⟨"java/lang/Boolean", "booleanValue", "()Z"⟩ : MethodName) (head1 (Jvm.Cond.code (⟨"java/lang/Boolean", "booleanValue", "()Z"⟩ : MethodName) jdk_2055_method_4_code 1 (some .boolean) :: ws) ({ frames := 0, cells := 0, slots := 0, locals := 0 } : Room)) (fun a U => a = #[(.ref r0)] ∧ Z.Warmed39 U.vm ∧ U.heap = h0) (fun _ _ _ _ _ => True) (fun _ U o U' => ∃ v L, o = .returned v ∧ Q30 Z r0 cb h0 n0 v U'.heap L ∧ FrameEnd U o U' L ({ frames := 0, cells := 0, slots := 0, locals := 0 } : Room).cells ({ frames := 0, cells := 0, slots := 0, locals := 0 } : Room).slots) := by
 refine MetFree.of_bodySF (plainFor_of_name pnc_java_lang_Boolean) hisR ?_
 intro p e s m args below meth c s₁ Bd hml0 hP hK
 obtain ⟨rfl, hZ, hh⟩ := hP
 have hx := Bd.exec
 have hby := Bd.bytes
 have hml : c.maxLocals = 1 := hml0
 have hown : s.vm.findClass "java/lang/Boolean" = some m.cls := findClass_of_methodNamed Bd.named
 have hnm := (name_of_methodNamed Bd.named Bd.method).1
 have X0 : Stand p l e ({ frames := 0, cells := 0, slots := 0, locals := 0 } : Room) s m #[(.ref r0)] below meth c s₁ [] 0 0 := Stand.of_body Bd
 have e0 : s₁.heap = h0 := by rw [← hh, Bd.state]; rfl
 have N0 := Fr.nil n0
 have kp0 : Keep h0 h0 [] := Keep.refl _ _
 have G0 : ∀ t, Steps p.tables e below (s₁.setTop (mkF m 0 #[rv r0] [])) t → Steps p.tables e below (s₁.setTop (entryFrame m #[(.ref r0)] 1)) t := fun t k => castTop (ef_rm30 m r0) k
 obtain ⟨T1, X1, e1, st1⟩ := getF X0 hx hZ hown (host := "") (Or.inl (hq hw 225 rfl)) Via.refl e0 Fv (g := (mkF m 1 #[rv r0] [(.ref r0)])) rfl rfl (hb hby d30_1)
 obtain ⟨fs, hr, hrun, hended, hW, hsame⟩ := X1.leave (v := some (.int (nar .boolean cb))) (fun h => by rw [Bd.returns] at h; cases h)
 refine ⟨_, _, G0 _ ?_, hrun, hended, _, _, rfl, ?_, ⟨_, rfl⟩, hW, hsame.mono (by decide) (by decide)⟩
 ·skip
  refine XS.aloadN X0.here hx rfl (hb hby d30_0) rfl rfl ?_
  refine st1 _ ?_
  exact retN X1 hx (t := .boolean) Bd.returns (by simp) (hb hby d30_4) hr
 ·show Q30 Z r0 cb h0 n0 _ T1.heap _
  rw [e1]
  exact ⟨by rw [own_nz hcb], N0, rfl⟩
theorem d24_0 : decode jdk_37_method_2_code 0 = .ok (.aload_n 0, 1) := by decide +kernel
theorem d24_1 : decode jdk_37_method_2_code 1 = .ok (.getfield 7, 3) := by decide +kernel
theorem d24_4 : decode jdk_37_method_2_code 4 = .ok (.ireturn, 1) := by decide +kernel
def Q24 (Z : State) (r0 : Addr) (oq : Int32) (h0 : Heap) (n0 : Nat) (v : Option Value) (h : Heap) (L : List Loc) : Prop := v = some (.int oq) ∧ Fr n0 L ∧ h = h0
theorem ef_rm24 (m : MethodId) (x0 : Addr) : entryFrame m #[(.ref x0)] 1 = mkF m 0 #[.val (.ref x0)] [] := by first | (simp [entryFrame, mkF, argsToLocals, Value.category]; done) | rfl
theorem pnc_java_lang_Enum : plainName "java/lang/Enum" = true := by first | (simp [plainName, overriddenIn]; done) | decide +kernel
set_option maxRecDepth 65536 in
set_option maxHeartbeats 40000000 in
theorem rm24 (l : Launch) (Z : State) (a0 : Array Value) (hw : ∀ d ∈ tables_1, d.before a0 Z = true) (ws : List Jvm.Cond) (r0 : Addr) (oq : Int32) (h0 : Heap) (n0 : Nat) (Z0 : n0 ≤ h0.size) (Fo : Fld Z h0 r0 "java/lang/Enum" "ordinal" "I" (.int oq)) :
  MetFree l (⟨"java/lang/Enum", "ordinal", "()I"⟩ : MethodName) (head1 (Jvm.Cond.code (⟨"java/lang/Enum", "ordinal", "()I"⟩ : MethodName) jdk_37_method_2_code 1 (some .int) :: ws) ({ frames := 0, cells := 0, slots := 0, locals := 0 } : Room)) (fun a U => a = #[(.ref r0)] ∧ Z.Warmed39 U.vm ∧ U.heap = h0) (fun _ _ _ _ _ => True) (fun _ U o U' => ∃ v L, o = .returned v ∧ Q24 Z r0 oq h0 n0 v U'.heap L ∧ FrameEnd U o U' L ({ frames := 0, cells := 0, slots := 0, locals := 0 } : Room).cells ({ frames := 0, cells := 0, slots := 0, locals := 0 } : Room).slots) := by
 refine MetFree.of_bodySF (plainFor_of_name pnc_java_lang_Enum) hisR ?_
 intro p e s m args below meth c s₁ Bd hml0 hP hK
 obtain ⟨rfl, hZ, hh⟩ := hP
 have hx := Bd.exec
 have hby := Bd.bytes
 have hml : c.maxLocals = 1 := hml0
 have hown : s.vm.findClass "java/lang/Enum" = some m.cls := findClass_of_methodNamed Bd.named
 have hnm := (name_of_methodNamed Bd.named Bd.method).1
 have X0 : Stand p l e ({ frames := 0, cells := 0, slots := 0, locals := 0 } : Room) s m #[(.ref r0)] below meth c s₁ [] 0 0 := Stand.of_body Bd
 have e0 : s₁.heap = h0 := by rw [← hh, Bd.state]; rfl
 have N0 := Fr.nil n0
 have kp0 : Keep h0 h0 [] := Keep.refl _ _
 have G0 : ∀ t, Steps p.tables e below (s₁.setTop (mkF m 0 #[rv r0] [])) t → Steps p.tables e below (s₁.setTop (entryFrame m #[(.ref r0)] 1)) t := fun t k => castTop (ef_rm24 m r0) k
 obtain ⟨T1, X1, e1, st1⟩ := getF X0 hx hZ hown (host := "") (Or.inl (hq hw 185 rfl)) Via.refl e0 Fo (g := (mkF m 1 #[rv r0] [(.ref r0)])) rfl rfl (hb hby d24_1)
 obtain ⟨fs, hr, hrun, hended, hW, hsame⟩ := X1.leave (v := some (.int oq)) (fun h => by rw [Bd.returns] at h; cases h)
 refine ⟨_, _, G0 _ ?_, hrun, hended, _, _, rfl, ?_, ⟨_, rfl⟩, hW, hsame.mono (by decide) (by decide)⟩
 ·skip
  refine XS.aloadN X0.here hx rfl (hb hby d24_0) rfl rfl ?_
  refine st1 _ ?_
  exact retI X1 hx Bd.returns (hb hby d24_4) hr
 ·show Q24 Z r0 oq h0 n0 _ T1.heap _
  rw [e1]
  exact ⟨rfl, N0, rfl⟩
theorem d3_0 : decode prog_100_method_1_code 0 = .ok (.aload_n 0, 1) := by decide +kernel
theorem d3_1 : decode prog_100_method_1_code 1 = .ok (.invokespecial 1, 3) := by decide +kernel
theorem pd_11 : parseMethodDescriptor "()V" = some ⟨[], none⟩ := by decide +kernel
theorem d3_4 : decode prog_100_method_1_code 4 = .ok (.aload_n 1, 1) := by decide +kernel
theorem d3_5 : decode prog_100_method_1_code 5 = .ok (.ldc 7, 2) := by decide +kernel
theorem own_satoms : ∀ d ∈ Bundle.stringAtoms, d ∈ tables_1 := by decide +kernel
theorem d3_7 : decode prog_100_method_1_code 7 = .ok (.invokestatic 9, 3) := by decide +kernel
theorem pd_12 : parseMethodDescriptor "(Ljava/lang/Object;Ljava/lang/String;)Ljava/lang/Object;" = some ⟨[(.object "java/lang/Object"), (.object "java/lang/String")], some (.object "java/lang/Object")⟩ := by decide +kernel
theorem d3_10 : decode prog_100_method_1_code 10 = .ok (.pop, 1) := by decide +kernel
theorem d3_11 : decode prog_100_method_1_code 11 = .ok (.aload_n 2, 1) := by decide +kernel
theorem d3_12 : decode prog_100_method_1_code 12 = .ok (.ldc 15, 2) := by decide +kernel
theorem d3_14 : decode prog_100_method_1_code 14 = .ok (.invokestatic 9, 3) := by decide +kernel
theorem d3_17 : decode prog_100_method_1_code 17 = .ok (.pop, 1) := by decide +kernel
theorem d3_18 : decode prog_100_method_1_code 18 = .ok (.aload_n 3, 1) := by decide +kernel
theorem d3_19 : decode prog_100_method_1_code 19 = .ok (.ldc 17, 2) := by decide +kernel
theorem d3_21 : decode prog_100_method_1_code 21 = .ok (.invokestatic 9, 3) := by decide +kernel
theorem d3_24 : decode prog_100_method_1_code 24 = .ok (.pop, 1) := by decide +kernel
theorem d3_25 : decode prog_100_method_1_code 25 = .ok (.aload 4, 2) := by decide +kernel
theorem d3_27 : decode prog_100_method_1_code 27 = .ok (.ldc 19, 2) := by decide +kernel
theorem d3_29 : decode prog_100_method_1_code 29 = .ok (.invokestatic 9, 3) := by decide +kernel
theorem d3_32 : decode prog_100_method_1_code 32 = .ok (.pop, 1) := by decide +kernel
theorem d3_33 : decode prog_100_method_1_code 33 = .ok (.aload 5, 2) := by decide +kernel
theorem d3_35 : decode prog_100_method_1_code 35 = .ok (.ldc 21, 2) := by decide +kernel
theorem d3_37 : decode prog_100_method_1_code 37 = .ok (.invokestatic 9, 3) := by decide +kernel
theorem d3_40 : decode prog_100_method_1_code 40 = .ok (.pop, 1) := by decide +kernel
theorem d3_41 : decode prog_100_method_1_code 41 = .ok (.aload_n 0, 1) := by decide +kernel
theorem d3_42 : decode prog_100_method_1_code 42 = .ok (.aload_n 1, 1) := by decide +kernel
theorem d3_43 : decode prog_100_method_1_code 43 = .ok (.putfield 23, 3) := by decide +kernel
theorem d3_46 : decode prog_100_method_1_code 46 = .ok (.aload_n 0, 1) := by decide +kernel
theorem d3_47 : decode prog_100_method_1_code 47 = .ok (.aload_n 2, 1) := by decide +kernel
theorem d3_48 : decode prog_100_method_1_code 48 = .ok (.putfield 28, 3) := by decide +kernel
theorem d3_51 : decode prog_100_method_1_code 51 = .ok (.aload_n 0, 1) := by decide +kernel
theorem d3_52 : decode prog_100_method_1_code 52 = .ok (.aload_n 3, 1) := by decide +kernel
theorem d3_53 : decode prog_100_method_1_code 53 = .ok (.putfield 31, 3) := by decide +kernel
theorem d3_56 : decode prog_100_method_1_code 56 = .ok (.aload_n 0, 1) := by decide +kernel
theorem d3_57 : decode prog_100_method_1_code 57 = .ok (.aload 4, 2) := by decide +kernel
theorem d3_59 : decode prog_100_method_1_code 59 = .ok (.putfield 34, 3) := by decide +kernel
theorem d3_62 : decode prog_100_method_1_code 62 = .ok (.aload_n 0, 1) := by decide +kernel
theorem d3_63 : decode prog_100_method_1_code 63 = .ok (.aload 5, 2) := by decide +kernel
theorem d3_65 : decode prog_100_method_1_code 65 = .ok (.putfield 37, 3) := by decide +kernel
theorem d3_68 : decode prog_100_method_1_code 68 = .ok (.return_, 1) := by decide +kernel
def Q3 (Z : State) (r0 : Addr) (r1 : Addr) (r2 : Addr) (r3 : Addr) (r4 : Addr) (r5 : Addr) (h0 : Heap) (n0 : Nat) (v : Option Value) (h : Heap) (L : List Loc) : Prop := v = none ∧ Fr n0 L ∧ Keep h0 h [r0] ∧ Exa Z h r0 "com/example/ratabl/ratabl/model/Settings" ∧ Fld Z h r0 "com/example/ratabl/ratabl/model/Settings" "allocationPartialProrationStrategy" "Lcom/example/ratabl/ratabl/model/ProrationStrategy;" (.ref r1) ∧ Fld Z h r0 "com/example/ratabl/ratabl/model/Settings" "creditNoteRevenueImpact" "Lcom/example/ratabl/ratabl/model/CreditNoteRevenueImpact;" (.ref r2) ∧ Fld Z h r0 "com/example/ratabl/ratabl/model/Settings" "lockDateMethod" "Lcom/example/ratabl/ratabl/model/LockDateMethod;" (.ref r3) ∧ Fld Z h r0 "com/example/ratabl/ratabl/model/Settings" "customLockDate" "Ljava/util/Optional;" (.ref r4)
theorem ef_rm3 (m : MethodId) (x0 : Addr) (x1 : Addr) (x2 : Addr) (x3 : Addr) (x4 : Addr) (x5 : Addr) : entryFrame m #[(.ref x0), (.ref x1), (.ref x2), (.ref x3), (.ref x4), (.ref x5)] 6 = mkF m 0 #[.val (.ref x0), .val (.ref x1), .val (.ref x2), .val (.ref x3), .val (.ref x4), .val (.ref x5)] [] := by first | (simp [entryFrame, mkF, argsToLocals, Value.category]; done) | rfl
theorem pnc_com_example_ratabl_ratabl_model_Settings : plainName "com/example/ratabl/ratabl/model/Settings" = true := by first | (simp [plainName, overriddenIn]; done) | decide +kernel
set_option maxRecDepth 65536 in
set_option maxHeartbeats 40000000 in
theorem rm3 (l : Launch) (Z : State) (a0 : Array Value) (hw : ∀ d ∈ tables_1, d.before a0 Z = true) (ws : List Jvm.Cond) (r0 : Addr) (r1 : Addr) (r2 : Addr) (r3 : Addr) (r4 : Addr) (r5 : Addr) (h0 : Heap) (n0 : Nat) (Z0 : n0 ≤ h0.size) (E0 : Exa Z h0 r0 "com/example/ratabl/ratabl/model/Settings") (FzallocationPartialProrationStrategy : Fld Z h0 r0 "com/example/ratabl/ratabl/model/Settings" "allocationPartialProrationStrategy" "Lcom/example/ratabl/ratabl/model/ProrationStrategy;" .null) (FzcreditNoteRevenueImpact : Fld Z h0 r0 "com/example/ratabl/ratabl/model/Settings" "creditNoteRevenueImpact" "Lcom/example/ratabl/ratabl/model/CreditNoteRevenueImpact;" .null) (FzlockDateMethod : Fld Z h0 r0 "com/example/ratabl/ratabl/model/Settings" "lockDateMethod" "Lcom/example/ratabl/ratabl/model/LockDateMethod;" .null) (FzcustomLockDate : Fld Z h0 r0 "com/example/ratabl/ratabl/model/Settings" "customLockDate" "Ljava/util/Optional;" .null) (FzaccountingDateSource : Fld Z h0 r0 "com/example/ratabl/ratabl/model/Settings" "accountingDateSource" "Lcom/example/ratabl/ratabl/model/AccountingDateSource;" .null) (g_r0 : n0 ≤ r0) :
  MetFree l (⟨"com/example/ratabl/ratabl/model/Settings", "<init>", "(Lcom/example/ratabl/ratabl/model/ProrationStrategy;Lcom/example/ratabl/ratabl/model/CreditNoteRevenueImpact;Lcom/example/ratabl/ratabl/model/LockDateMethod;Ljava/util/Optional;Lcom/example/ratabl/ratabl/model/AccountingDateSource;)V"⟩ : MethodName) (head1 (Jvm.Cond.code (⟨"com/example/ratabl/ratabl/model/Settings", "<init>", "(Lcom/example/ratabl/ratabl/model/ProrationStrategy;Lcom/example/ratabl/ratabl/model/CreditNoteRevenueImpact;Lcom/example/ratabl/ratabl/model/LockDateMethod;Ljava/util/Optional;Lcom/example/ratabl/ratabl/model/AccountingDateSource;)V"⟩ : MethodName) prog_100_method_1_code 6 none :: ws) ({ frames := 2, cells := 10, slots := 440, locals := 24 } : Room)) (fun a U => a = #[(.ref r0), (.ref r1), (.ref r2), (.ref r3), (.ref r4), (.ref r5)] ∧ Z.Warmed39 U.vm ∧ U.heap = h0) (fun _ _ _ _ _ => True) (fun _ U o U' => ∃ v L, o = .returned v ∧ Q3 Z r0 r1 r2 r3 r4 r5 h0 n0 v U'.heap L ∧ ReturnedEndW U o U' L ({ frames := 2, cells := 10, slots := 440, locals := 24 } : Room).cells ({ frames := 2, cells := 10, slots := 440, locals := 24 } : Room).slots) := by
 refine MetFree.of_bodySF (plainFor_of_name pnc_com_example_ratabl_ratabl_model_Settings) hisR ?_
 intro p e s m args below meth c s₁ Bd hml0 hP hK
 obtain ⟨rfl, hZ, hh⟩ := hP
 have hx := Bd.exec
 have hby := Bd.bytes
 have hml : c.maxLocals = 6 := hml0
 have hown : s.vm.findClass "com/example/ratabl/ratabl/model/Settings" = some m.cls := findClass_of_methodNamed Bd.named
 have hnm := (name_of_methodNamed Bd.named Bd.method).1
 have X0 : Stand p l e ({ frames := 2, cells := 10, slots := 440, locals := 24 } : Room) s m #[(.ref r0), (.ref r1), (.ref r2), (.ref r3), (.ref r4), (.ref r5)] below meth c s₁ [] 0 0 := Stand.of_body Bd
 have e0 : s₁.heap = h0 := by rw [← hh, Bd.state]; rfl
 have N0 := Fr.nil n0
 have kp0 : Keep h0 h0 [r0] := Keep.refl _ _
 have G0 : ∀ t, Steps p.tables e below (s₁.setTop (mkF m 0 #[rv r0, rv r1, rv r2, rv r3, rv r4, rv r5] [])) t → Steps p.tables e below (s₁.setTop (entryFrame m #[(.ref r0), (.ref r1), (.ref r2), (.ref r3), (.ref r4), (.ref r5)] 6)) t := fun t k => castTop (ef_rm3 m r0 r1 r2 r3 r4 r5) k
 have X0 : Stand p l e ({ frames := 2, cells := 10, slots := 440, locals := 24 } : Room) (s.setVm s.vm) m #[(.ref r0), (.ref r1), (.ref r2), (.ref r3), (.ref r4), (.ref r5)] below meth c s₁ [] 0 0 := X0
 have hZ : Z.Warmed39 (s.setVm s.vm).vm := hZ
 have hown : (s.setVm s.vm).vm.findClass "com/example/ratabl/ratabl/model/Settings" = some m.cls := hown
 have hS : s.Since s.vm 0 := (State.WarmedH.refl s).since 0
 have hk : 0 ≤ h0.size := Nat.zero_le _
 have G1 : ∀ t, Steps p.tables e below (s₁.setTop (mkF m 1 #[rv r0, rv r1, rv r2, rv r3, rv r4, rv r5] [(.ref r0)])) t → Steps p.tables e below (s₁.setTop (entryFrame m #[(.ref r0), (.ref r1), (.ref r2), (.ref r3), (.ref r4), (.ref r5)] 6)) t := by
  intro t kt
  refine G0 _ ?_
  refine XS.aloadN X0.here hx rfl (hb hby d3_0) rfl rfl ?_
  exact kt
 obtain ⟨_, _, ⟨T2, L2, k2, n2⟩, -, X2, ⟨Lc2, hQ2, l2, y2, z2⟩, st2⟩ := X0.specialBack hx (y := (⟨"java/lang/Record", "<init>", "()V"⟩ : MethodName)) rfl hown (mvT hZ (hq hw 30 rfl)) (mvT hZ (hq hw 31 rfl)) (mvT hZ (hq hw 34 rfl)) (by decide) (backOf (W := 0) (rm4 l Z a0 hw [] r0  h0 n0 Z0  ) hZ (hq hw 34 rfl) (hq hw 33 rfl) (by decide) (by decide)) (g := (mkF m 1 #[rv r0, rv r1, rv r2, rv r3, rv r4, rv r5] [(.ref r0)])) rfl (by rw [hml]; rfl) (Steps.refl _) (a := r0) (argsL := []) (rest := []) (lenOf pd_11 rfl) rfl (by show 2 * 0 + _ ≤ _; exact Nat.le_of_eq rfl) (hb hby d3_1) (fun _ _ => ⟨rfl, e0, (by decide : 0 + 0 ≤ _), (by decide : 0 + 0 ≤ _)⟩)
 dsimp only [Pt.U, Pt.locs, Pt.cells, Pt.slots] at X2 l2 y2 z2 st2 hQ2
 subst l2 y2 z2
 obtain ⟨rfl, N2q, eh2⟩ := hQ2
 have N2 := Fr.app N0 N2q
 have G3 : ∀ t, Steps p.tables e below (T2.setTop (mkF m 5 #[rv r0, rv r1, rv r2, rv r3, rv r4, rv r5] [(.ref r1)])) t → Steps p.tables e below (s₁.setTop (entryFrame m #[(.ref r0), (.ref r1), (.ref r2), (.ref r3), (.ref r4), (.ref r5)] 6)) t := by
  intro t kt
  refine G1 _ ?_
  refine st2.trans ?_
  refine XS.aloadN X2.here hx rfl (hb hby d3_4) rfl rfl ?_
  exact kt
 obtain ⟨a4, T4, h4, k4, X4, e4, E4, hS, hk, hZ, hown, st4⟩ := ldcS (s := s) X2 hx hZ hown (hq hw 38 rfl) (fun d hd => hw d (own_satoms d hd)) eh2 hS hk (g := (mkF m 5 #[rv r0, rv r1, rv r2, rv r3, rv r4, rv r5] [(.ref r1)])) rfl (hb hby d3_5) (n := 136) (by decide) (by decide) (by decide) (by decide)
 have fa5 := E0.ext E4
 have fa6 := FzallocationPartialProrationStrategy.ext E4
 have fa7 := FzcreditNoteRevenueImpact.ext E4
 have fa8 := FzlockDateMethod.ext E4
 have fa9 := FzcustomLockDate.ext E4
 have fa10 := FzaccountingDateSource.ext E4
 have z11 : n0 ≤ h4.size := Nat.le_trans Z0 E4.1
 have kp12 : Keep h0 h4 [r0] := kp0.ext E4
 have G13 : ∀ t, Steps p.tables e below (T4.setTop (mkF m 7 #[rv r0, rv r1, rv r2, rv r3, rv r4, rv r5] [(.ref a4), (.ref r1)])) t → Steps p.tables e below (s₁.setTop (entryFrame m #[(.ref r0), (.ref r1), (.ref r2), (.ref r3), (.ref r4), (.ref r5)] 6)) t := by
  intro t kt
  refine G3 _ ?_
  refine st4 _ ?_
  exact kt
 obtain ⟨_, _, ⟨T14, L14, k14, n14⟩, -, X14, ⟨Lc14, hQ14, l14, y14, z14⟩, st14⟩ := Jvm.LawKit.callS X4 hx (y := (⟨"java/util/Objects", "requireNonNull", "(Ljava/lang/Object;Ljava/lang/String;)Ljava/lang/Object;"⟩ : MethodName)) hown (mvT hZ (hq hw 46 rfl)) (mvT hZ (hq hw 47 rfl)) (mvT hZ (hq hw 48 rfl)) (mvT hZ (hq hw 49 rfl)) (by decide) (backOf (W := 0) (rm6 l Z a0 hw [] r1 a4  h4 n0 z11  ) hZ (hq hw 49 rfl) (hq hw 48 rfl) (by decide) (by decide)) (g := (mkF m 7 #[rv r0, rv r1, rv r2, rv r3, rv r4, rv r5] [(.ref a4), (.ref r1)])) rfl (by rw [hml]; rfl) (argsL := [(.ref r1), (.ref a4)]) (rest := []) (lenOf pd_12 rfl) rfl (by show 2 * 0 + _ ≤ _; exact Nat.le_of_eq rfl) (hb hby d3_7) (fun _ _ => ⟨rfl, e4, (by decide : 2 + 0 ≤ _), (by decide : 140 + 0 ≤ _)⟩)
 dsimp only [Pt.U, Pt.locs, Pt.cells, Pt.slots] at X14 l14 y14 z14 st14 hQ14
 subst l14 y14 z14
 obtain ⟨rfl, N14q, eh14⟩ := hQ14
 have N14 := Fr.app N2 N14q
 have G15 : ∀ t, Steps p.tables e below (T14.setTop (mkF m 12 #[rv r0, rv r1, rv r2, rv r3, rv r4, rv r5] [(.ref r2)])) t → Steps p.tables e below (s₁.setTop (entryFrame m #[(.ref r0), (.ref r1), (.ref r2), (.ref r3), (.ref r4), (.ref r5)] 6)) t := by
  intro t kt
  refine G13 _ ?_
  refine st14 _ ?_
  refine XS.pop X14.here hx rfl (hb hby d3_10) rfl rfl ?_
  refine XS.aloadN X14.here hx rfl (hb hby d3_11) rfl rfl ?_
  exact kt
 obtain ⟨a16, T16, h16, k16, X16, e16, E16, hS, hk, hZ, hown, st16⟩ := ldcS (s := s) X14 hx hZ hown (hq hw 50 rfl) (fun d hd => hw d (own_satoms d hd)) eh14 hS hk (g := (mkF m 12 #[rv r0, rv r1, rv r2, rv r3, rv r4, rv r5] [(.ref r2)])) rfl (hb hby d3_12) (n := 92) (by decide) (by decide) (by decide) (by decide)
 have fa17 := fa5.ext E16
 have fa18 := fa6.ext E16
 have fa19 := fa7.ext E16
 have fa20 := fa8.ext E16
 have fa21 := fa9.ext E16
 have fa22 := fa10.ext E16
 have z23 : n0 ≤ h16.size := Nat.le_trans z11 E16.1
 have kp24 : Keep h0 h16 [r0] := kp12.ext E16
 have G25 : ∀ t, Steps p.tables e below (T16.setTop (mkF m 14 #[rv r0, rv r1, rv r2, rv r3, rv r4, rv r5] [(.ref a16), (.ref r2)])) t → Steps p.tables e below (s₁.setTop (entryFrame m #[(.ref r0), (.ref r1), (.ref r2), (.ref r3), (.ref r4), (.ref r5)] 6)) t := by
  intro t kt
  refine G15 _ ?_
  refine st16 _ ?_
  exact kt
 obtain ⟨_, _, ⟨T26, L26, k26, n26⟩, -, X26, ⟨Lc26, hQ26, l26, y26, z26⟩, st26⟩ := Jvm.LawKit.callS X16 hx (y := (⟨"java/util/Objects", "requireNonNull", "(Ljava/lang/Object;Ljava/lang/String;)Ljava/lang/Object;"⟩ : MethodName)) hown (mvT hZ (hq hw 46 rfl)) (mvT hZ (hq hw 47 rfl)) (mvT hZ (hq hw 48 rfl)) (mvT hZ (hq hw 49 rfl)) (by decide) (backOf (W := 0) (rm6 l Z a0 hw [] r2 a16  h16 n0 z23  ) hZ (hq hw 49 rfl) (hq hw 48 rfl) (by decide) (by decide)) (g := (mkF m 14 #[rv r0, rv r1, rv r2, rv r3, rv r4, rv r5] [(.ref a16), (.ref r2)])) rfl (by rw [hml]; rfl) (argsL := [(.ref r2), (.ref a16)]) (rest := []) (lenOf pd_12 rfl) rfl (by show 2 * 0 + _ ≤ _; exact Nat.le_of_eq rfl) (hb hby d3_14) (fun _ _ => ⟨rfl, e16, (by decide : 4 + 0 ≤ _), (by decide : 236 + 0 ≤ _)⟩)
 dsimp only [Pt.U, Pt.locs, Pt.cells, Pt.slots] at X26 l26 y26 z26 st26 hQ26
 subst l26 y26 z26
 obtain ⟨rfl, N26q, eh26⟩ := hQ26
 have N26 := Fr.app N14 N26q
 have G27 : ∀ t, Steps p.tables e below (T26.setTop (mkF m 19 #[rv r0, rv r1, rv r2, rv r3, rv r4, rv r5] [(.ref r3)])) t → Steps p.tables e below (s₁.setTop (entryFrame m #[(.ref r0), (.ref r1), (.ref r2), (.ref r3), (.ref r4), (.ref r5)] 6)) t := by
  intro t kt
  refine G25 _ ?_
  refine st26 _ ?_
  refine XS.pop X26.here hx rfl (hb hby d3_17) rfl rfl ?_
  refine XS.aloadN X26.here hx rfl (hb hby d3_18) rfl rfl ?_
  exact kt
 obtain ⟨a28, T28, h28, k28, X28, e28, E28, hS, hk, hZ, hown, st28⟩ := ldcS (s := s) X26 hx hZ hown (hq hw 51 rfl) (fun d hd => hw d (own_satoms d hd)) eh26 hS hk (g := (mkF m 19 #[rv r0, rv r1, rv r2, rv r3, rv r4, rv r5] [(.ref r3)])) rfl (hb hby d3_19) (n := 56) (by decide) (by decide) (by decide) (by decide)
 have fa29 := fa17.ext E28
 have fa30 := fa18.ext E28
 have fa31 := fa19.ext E28
 have fa32 := fa20.ext E28
 have fa33 := fa21.ext E28
 have fa34 := fa22.ext E28
 have z35 : n0 ≤ h28.size := Nat.le_trans z23 E28.1
 have kp36 : Keep h0 h28 [r0] := kp24.ext E28
 have G37 : ∀ t, Steps p.tables e below (T28.setTop (mkF m 21 #[rv r0, rv r1, rv r2, rv r3, rv r4, rv r5] [(.ref a28), (.ref r3)])) t → Steps p.tables e below (s₁.setTop (entryFrame m #[(.ref r0), (.ref r1), (.ref r2), (.ref r3), (.ref r4), (.ref r5)] 6)) t := by
  intro t kt
  refine G27 _ ?_
  refine st28 _ ?_
  exact kt
 obtain ⟨_, _, ⟨T38, L38, k38, n38⟩, -, X38, ⟨Lc38, hQ38, l38, y38, z38⟩, st38⟩ := Jvm.LawKit.callS X28 hx (y := (⟨"java/util/Objects", "requireNonNull", "(Ljava/lang/Object;Ljava/lang/String;)Ljava/lang/Object;"⟩ : MethodName)) hown (mvT hZ (hq hw 46 rfl)) (mvT hZ (hq hw 47 rfl)) (mvT hZ (hq hw 48 rfl)) (mvT hZ (hq hw 49 rfl)) (by decide) (backOf (W := 0) (rm6 l Z a0 hw [] r3 a28  h28 n0 z35  ) hZ (hq hw 49 rfl) (hq hw 48 rfl) (by decide) (by decide)) (g := (mkF m 21 #[rv r0, rv r1, rv r2, rv r3, rv r4, rv r5] [(.ref a28), (.ref r3)])) rfl (by rw [hml]; rfl) (argsL := [(.ref r3), (.ref a28)]) (rest := []) (lenOf pd_12 rfl) rfl (by show 2 * 0 + _ ≤ _; exact Nat.le_of_eq rfl) (hb hby d3_21) (fun _ _ => ⟨rfl, e28, (by decide : 6 + 0 ≤ _), (by decide : 296 + 0 ≤ _)⟩)
 dsimp only [Pt.U, Pt.locs, Pt.cells, Pt.slots] at X38 l38 y38 z38 st38 hQ38
 subst l38 y38 z38
 obtain ⟨rfl, N38q, eh38⟩ := hQ38
 have N38 := Fr.app N26 N38q
 have G39 : ∀ t, Steps p.tables e below (T38.setTop (mkF m 27 #[rv r0, rv r1, rv r2, rv r3, rv r4, rv r5] [(.ref r4)])) t → Steps p.tables e below (s₁.setTop (entryFrame m #[(.ref r0), (.ref r1), (.ref r2), (.ref r3), (.ref r4), (.ref r5)] 6)) t := by
  intro t kt
  refine G37 _ ?_
  refine st38 _ ?_
  refine XS.pop X38.here hx rfl (hb hby d3_24) rfl rfl ?_
  refine XS.aload X38.here hx rfl (hb hby d3_25) rfl rfl ?_
  exact kt
 obtain ⟨a40, T40, h40, k40, X40, e40, E40, hS, hk, hZ, hown, st40⟩ := ldcS (s := s) X38 hx hZ hown (hq hw 52 rfl) (fun d hd => hw d (own_satoms d hd)) eh38 hS hk (g := (mkF m 27 #[rv r0, rv r1, rv r2, rv r3, rv r4, rv r5] [(.ref r4)])) rfl (hb hby d3_27) (n := 56) (by decide) (by decide) (by decide) (by decide)
 have fa41 := fa29.ext E40
 have fa42 := fa30.ext E40
 have fa43 := fa31.ext E40
 have fa44 := fa32.ext E40
 have fa45 := fa33.ext E40
 have fa46 := fa34.ext E40
 have z47 : n0 ≤ h40.size := Nat.le_trans z35 E40.1
 have kp48 : Keep h0 h40 [r0] := kp36.ext E40
 have G49 : ∀ t, Steps p.tables e below (T40.setTop (mkF m 29 #[rv r0, rv r1, rv r2, rv r3, rv r4, rv r5] [(.ref a40), (.ref r4)])) t → Steps p.tables e below (s₁.setTop (entryFrame m #[(.ref r0), (.ref r1), (.ref r2), (.ref r3), (.ref r4), (.ref r5)] 6)) t := by
  intro t kt
  refine G39 _ ?_
  refine st40 _ ?_
  exact kt
 obtain ⟨_, _, ⟨T50, L50, k50, n50⟩, -, X50, ⟨Lc50, hQ50, l50, y50, z50⟩, st50⟩ := Jvm.LawKit.callS X40 hx (y := (⟨"java/util/Objects", "requireNonNull", "(Ljava/lang/Object;Ljava/lang/String;)Ljava/lang/Object;"⟩ : MethodName)) hown (mvT hZ (hq hw 46 rfl)) (mvT hZ (hq hw 47 rfl)) (mvT hZ (hq hw 48 rfl)) (mvT hZ (hq hw 49 rfl)) (by decide) (backOf (W := 0) (rm6 l Z a0 hw [] r4 a40  h40 n0 z47  ) hZ (hq hw 49 rfl) (hq hw 48 rfl) (by decide) (by decide)) (g := (mkF m 29 #[rv r0, rv r1, rv r2, rv r3, rv r4, rv r5] [(.ref a40), (.ref r4)])) rfl (by rw [hml]; rfl) (argsL := [(.ref r4), (.ref a40)]) (rest := []) (lenOf pd_12 rfl) rfl (by show 2 * 0 + _ ≤ _; exact Nat.le_of_eq rfl) (hb hby d3_29) (fun _ _ => ⟨rfl, e40, (by decide : 8 + 0 ≤ _), (by decide : 356 + 0 ≤ _)⟩)
 dsimp only [Pt.U, Pt.locs, Pt.cells, Pt.slots] at X50 l50 y50 z50 st50 hQ50
 subst l50 y50 z50
 obtain ⟨rfl, N50q, eh50⟩ := hQ50
 have N50 := Fr.app N38 N50q
 have G51 : ∀ t, Steps p.tables e below (T50.setTop (mkF m 35 #[rv r0, rv r1, rv r2, rv r3, rv r4, rv r5] [(.ref r5)])) t → Steps p.tables e below (s₁.setTop (entryFrame m #[(.ref r0), (.ref r1), (.ref r2), (.ref r3), (.ref r4), (.ref r5)] 6)) t := by
  intro t kt
  refine G49 _ ?_
  refine st50 _ ?_
  refine XS.pop X50.here hx rfl (hb hby d3_32) rfl rfl ?_
  refine XS.aload X50.here hx rfl (hb hby d3_33) rfl rfl ?_
  exact kt
 obtain ⟨a52, T52, h52, k52, X52, e52, E52, hS, hk, hZ, hown, st52⟩ := ldcS (s := s) X50 hx hZ hown (hq hw 53 rfl) (fun d hd => hw d (own_satoms d hd)) eh50 hS hk (g := (mkF m 35 #[rv r0, rv r1, rv r2, rv r3, rv r4, rv r5] [(.ref r5)])) rfl (hb hby d3_35) (n := 80) (by decide) (by decide) (by decide) (by decide)
 have fa53 := fa41.ext E52
 have fa54 := fa42.ext E52
 have fa55 := fa43.ext E52
 have fa56 := fa44.ext E52
 have fa57 := fa45.ext E52
 have fa58 := fa46.ext E52
 have z59 : n0 ≤ h52.size := Nat.le_trans z47 E52.1
 have kp60 : Keep h0 h52 [r0] := kp48.ext E52
 have G61 : ∀ t, Steps p.tables e below (T52.setTop (mkF m 37 #[rv r0, rv r1, rv r2, rv r3, rv r4, rv r5] [(.ref a52), (.ref r5)])) t → Steps p.tables e below (s₁.setTop (entryFrame m #[(.ref r0), (.ref r1), (.ref r2), (.ref r3), (.ref r4), (.ref r5)] 6)) t := by
  intro t kt
  refine G51 _ ?_
  show Steps p.tables e below (T50.setTop (mkF m 35 #[rv r0, rv r1, rv r2, rv r3, rv r4, rv r5] [(.ref r5)])) _
  refine st52 _ ?_
  exact kt
 obtain ⟨_, _, ⟨T62, L62, k62, n62⟩, -, X62, ⟨Lc62, hQ62, l62, y62, z62⟩, st62⟩ := Jvm.LawKit.callS X52 hx (y := (⟨"java/util/Objects", "requireNonNull", "(Ljava/lang/Object;Ljava/lang/String;)Ljava/lang/Object;"⟩ : MethodName)) hown (mvT hZ (hq hw 46 rfl)) (mvT hZ (hq hw 47 rfl)) (mvT hZ (hq hw 48 rfl)) (mvT hZ (hq hw 49 rfl)) (by decide) (backOf (W := 0) (rm6 l Z a0 hw [] r5 a52  h52 n0 z59  ) hZ (hq hw 49 rfl) (hq hw 48 rfl) (by decide) (by decide)) (g := (mkF m 37 #[rv r0, rv r1, rv r2, rv r3, rv r4, rv r5] [(.ref a52), (.ref r5)])) rfl (by rw [hml]; rfl) (argsL := [(.ref r5), (.ref a52)]) (rest := []) (lenOf pd_12 rfl) rfl (by show 2 * 0 + _ ≤ _; exact Nat.le_of_eq rfl) (hb hby d3_37) (fun _ _ => ⟨rfl, e52, (by decide : 10 + 0 ≤ _), (by decide : 440 + 0 ≤ _)⟩)
 dsimp only [Pt.U, Pt.locs, Pt.cells, Pt.slots] at X62 l62 y62 z62 st62 hQ62
 subst l62 y62 z62
 obtain ⟨rfl, N62q, eh62⟩ := hQ62
 have N62 := Fr.app N50 N62q
 obtain ⟨T63, h63, X63, e63, W63, st63⟩ := putF X62 hx hZ hown (host := "") (Or.inl (hq hw 54 rfl)) Via.refl eh62 fa54 fa53 (Or.inr ⟨(hq hw 55 rfl), rfl, hnm⟩) (hq hw 15 rfl) (ty := (.object "com/example/ratabl/ratabl/model/ProrationStrategy")) (by decide) rfl rfl (g := (mkF m 43 #[rv r0, rv r1, rv r2, rv r3, rv r4, rv r5] [(.ref r1), (.ref r0)])) rfl rfl (hb hby d3_43)
 have fa64 := fa53.wr W63
 have fa65 : Fld Z h63 r0 "com/example/ratabl/ratabl/model/Settings" "allocationPartialProrationStrategy" "Lcom/example/ratabl/ratabl/model/ProrationStrategy;" (.ref r1) := fa54.same W63
 have fa66 := fa55.other W63 (Or.inr (slot_ne (Or.inr (hq hw 57 rfl)) (Or.inr (hq hw 55 rfl)) (by decide) (t := (.object "com/example/ratabl/ratabl/model/CreditNoteRevenueImpact")) (t' := (.object "com/example/ratabl/ratabl/model/ProrationStrategy")) (by decide) (by decide)))
 have fa67 := fa56.other W63 (Or.inr (slot_ne (Or.inr (hq hw 59 rfl)) (Or.inr (hq hw 55 rfl)) (by decide) (t := (.object "com/example/ratabl/ratabl/model/LockDateMethod")) (t' := (.object "com/example/ratabl/ratabl/model/ProrationStrategy")) (by decide) (by decide)))
 have fa68 := fa57.other W63 (Or.inr (slot_ne (Or.inr (hq hw 61 rfl)) (Or.inr (hq hw 55 rfl)) (by decide) (t := (.object "java/util/Optional")) (t' := (.object "com/example/ratabl/ratabl/model/ProrationStrategy")) (by decide) (by decide)))
 have fa69 := fa58.other W63 (Or.inr (slot_ne (Or.inr (hq hw 63 rfl)) (Or.inr (hq hw 55 rfl)) (by decide) (t := (.object "com/example/ratabl/ratabl/model/AccountingDateSource")) (t' := (.object "com/example/ratabl/ratabl/model/ProrationStrategy")) (by decide) (by decide)))
 have z70 : n0 ≤ h63.size := Nat.le_trans z59 (Nat.le_of_eq W63.size.symm)
 have hk := Nat.le_trans hk (Nat.le_of_eq W63.size.symm)
 have kp71 : Keep h0 h63 [r0] := kp60.wr W63 (Or.inl (List.mem_of_getElem? (i := 0) rfl))
 have N63 := Fr.snoc X63 N62 g_r0
 obtain ⟨T72, h72, X72, e72, W72, st72⟩ := putF X63 hx hZ hown (host := "") (Or.inl (hq hw 56 rfl)) Via.refl e63 fa66 fa64 (Or.inr ⟨(hq hw 57 rfl), rfl, hnm⟩) (hq hw 15 rfl) (ty := (.object "com/example/ratabl/ratabl/model/CreditNoteRevenueImpact")) (by decide) rfl rfl (g := (mkF m 48 #[rv r0, rv r1, rv r2, rv r3, rv r4, rv r5] [(.ref r2), (.ref r0)])) rfl rfl (hb hby d3_48)
 have fa73 := fa64.wr W72
 have fa74 := fa65.other W72 (Or.inr (slot_ne (Or.inr (hq hw 55 rfl)) (Or.inr (hq hw 57 rfl)) (by decide) (t := (.object "com/example/ratabl/ratabl/model/ProrationStrategy")) (t' := (.object "com/example/ratabl/ratabl/model/CreditNoteRevenueImpact")) (by decide) (by decide)))
 have fa75 : Fld Z h72 r0 "com/example/ratabl/ratabl/model/Settings" "creditNoteRevenueImpact" "Lcom/example/ratabl/ratabl/model/CreditNoteRevenueImpact;" (.ref r2) := fa66.same W72
 have fa76 := fa67.other W72 (Or.inr (slot_ne (Or.inr (hq hw 59 rfl)) (Or.inr (hq hw 57 rfl)) (by decide) (t := (.object "com/example/ratabl/ratabl/model/LockDateMethod")) (t' := (.object "com/example/ratabl/ratabl/model/CreditNoteRevenueImpact")) (by decide) (by decide)))
 have fa77 := fa68.other W72 (Or.inr (slot_ne (Or.inr (hq hw 61 rfl)) (Or.inr (hq hw 57 rfl)) (by decide) (t := (.object "java/util/Optional")) (t' := (.object "com/example/ratabl/ratabl/model/CreditNoteRevenueImpact")) (by decide) (by decide)))
 have fa78 := fa69.other W72 (Or.inr (slot_ne (Or.inr (hq hw 63 rfl)) (Or.inr (hq hw 57 rfl)) (by decide) (t := (.object "com/example/ratabl/ratabl/model/AccountingDateSource")) (t' := (.object "com/example/ratabl/ratabl/model/CreditNoteRevenueImpact")) (by decide) (by decide)))
 have z79 : n0 ≤ h72.size := Nat.le_trans z70 (Nat.le_of_eq W72.size.symm)
 have hk := Nat.le_trans hk (Nat.le_of_eq W72.size.symm)
 have kp80 : Keep h0 h72 [r0] := kp71.wr W72 (Or.inl (List.mem_of_getElem? (i := 0) rfl))
 have N72 := Fr.snoc X72 N63 g_r0
 obtain ⟨T81, h81, X81, e81, W81, st81⟩ := putF X72 hx hZ hown (host := "") (Or.inl (hq hw 58 rfl)) Via.refl e72 fa76 fa73 (Or.inr ⟨(hq hw 59 rfl), rfl, hnm⟩) (hq hw 15 rfl) (ty := (.object "com/example/ratabl/ratabl/model/LockDateMethod")) (by decide) rfl rfl (g := (mkF m 53 #[rv r0, rv r1, rv r2, rv r3, rv r4, rv r5] [(.ref r3), (.ref r0)])) rfl rfl (hb hby d3_53)
 have fa82 := fa73.wr W81
 have fa83 := fa74.other W81 (Or.inr (slot_ne (Or.inr (hq hw 55 rfl)) (Or.inr (hq hw 59 rfl)) (by decide) (t := (.object "com/example/ratabl/ratabl/model/ProrationStrategy")) (t' := (.object "com/example/ratabl/ratabl/model/LockDateMethod")) (by decide) (by decide)))
 have fa84 := fa75.other W81 (Or.inr (slot_ne (Or.inr (hq hw 57 rfl)) (Or.inr (hq hw 59 rfl)) (by decide) (t := (.object "com/example/ratabl/ratabl/model/CreditNoteRevenueImpact")) (t' := (.object "com/example/ratabl/ratabl/model/LockDateMethod")) (by decide) (by decide)))
 have fa85 : Fld Z h81 r0 "com/example/ratabl/ratabl/model/Settings" "lockDateMethod" "Lcom/example/ratabl/ratabl/model/LockDateMethod;" (.ref r3) := fa76.same W81
 have fa86 := fa77.other W81 (Or.inr (slot_ne (Or.inr (hq hw 61 rfl)) (Or.inr (hq hw 59 rfl)) (by decide) (t := (.object "java/util/Optional")) (t' := (.object "com/example/ratabl/ratabl/model/LockDateMethod")) (by decide) (by decide)))
 have fa87 := fa78.other W81 (Or.inr (slot_ne (Or.inr (hq hw 63 rfl)) (Or.inr (hq hw 59 rfl)) (by decide) (t := (.object "com/example/ratabl/ratabl/model/AccountingDateSource")) (t' := (.object "com/example/ratabl/ratabl/model/LockDateMethod")) (by decide) (by decide)))
 have z88 : n0 ≤ h81.size := Nat.le_trans z79 (Nat.le_of_eq W81.size.symm)
 have hk := Nat.le_trans hk (Nat.le_of_eq W81.size.symm)
 have kp89 : Keep h0 h81 [r0] := kp80.wr W81 (Or.inl (List.mem_of_getElem? (i := 0) rfl))
 have N81 := Fr.snoc X81 N72 g_r0
 obtain ⟨T90, h90, X90, e90, W90, st90⟩ := putF X81 hx hZ hown (host := "") (Or.inl (hq hw 60 rfl)) Via.refl e81 fa86 fa82 (Or.inr ⟨(hq hw 61 rfl), rfl, hnm⟩) (hq hw 15 rfl) (ty := (.object "java/util/Optional")) (by decide) rfl rfl (g := (mkF m 59 #[rv r0, rv r1, rv r2, rv r3, rv r4, rv r5] [(.ref r4), (.ref r0)])) rfl rfl (hb hby d3_59)
 have fa91 := fa82.wr W90
 have fa92 := fa83.other W90 (Or.inr (slot_ne (Or.inr (hq hw 55 rfl)) (Or.inr (hq hw 61 rfl)) (by decide) (t := (.object "com/example/ratabl/ratabl/model/ProrationStrategy")) (t' := (.object "java/util/Optional")) (by decide) (by decide)))
 have fa93 := fa84.other W90 (Or.inr (slot_ne (Or.inr (hq hw 57 rfl)) (Or.inr (hq hw 61 rfl)) (by decide) (t := (.object "com/example/ratabl/ratabl/model/CreditNoteRevenueImpact")) (t' := (.object "java/util/Optional")) (by decide) (by decide)))
 have fa94 := fa85.other W90 (Or.inr (slot_ne (Or.inr (hq hw 59 rfl)) (Or.inr (hq hw 61 rfl)) (by decide) (t := (.object "com/example/ratabl/ratabl/model/LockDateMethod")) (t' := (.object "java/util/Optional")) (by decide) (by decide)))
 have fa95 : Fld Z h90 r0 "com/example/ratabl/ratabl/model/Settings" "customLockDate" "Ljava/util/Optional;" (.ref r4) := fa86.same W90
 have fa96 := fa87.other W90 (Or.inr (slot_ne (Or.inr (hq hw 63 rfl)) (Or.inr (hq hw 61 rfl)) (by decide) (t := (.object "com/example/ratabl/ratabl/model/AccountingDateSource")) (t' := (.object "java/util/Optional")) (by decide) (by decide)))
 have z97 : n0 ≤ h90.size := Nat.le_trans z88 (Nat.le_of_eq W90.size.symm)
 have hk := Nat.le_trans hk (Nat.le_of_eq W90.size.symm)
 have kp98 : Keep h0 h90 [r0] := kp89.wr W90 (Or.inl (List.mem_of_getElem? (i := 0) rfl))
 have N90 := Fr.snoc X90 N81 g_r0
 obtain ⟨T99, h99, X99, e99, W99, st99⟩ := putF X90 hx hZ hown (host := "") (Or.inl (hq hw 62 rfl)) Via.refl e90 fa96 fa91 (Or.inr ⟨(hq hw 63 rfl), rfl, hnm⟩) (hq hw 15 rfl) (ty := (.object "com/example/ratabl/ratabl/model/AccountingDateSource")) (by decide) rfl rfl (g := (mkF m 65 #[rv r0, rv r1, rv r2, rv r3, rv r4, rv r5] [(.ref r5), (.ref r0)])) rfl rfl (hb hby d3_65)
 have fa100 := fa91.wr W99
 have fa101 := fa92.other W99 (Or.inr (slot_ne (Or.inr (hq hw 55 rfl)) (Or.inr (hq hw 63 rfl)) (by decide) (t := (.object "com/example/ratabl/ratabl/model/ProrationStrategy")) (t' := (.object "com/example/ratabl/ratabl/model/AccountingDateSource")) (by decide) (by decide)))
 have fa102 := fa93.other W99 (Or.inr (slot_ne (Or.inr (hq hw 57 rfl)) (Or.inr (hq hw 63 rfl)) (by decide) (t := (.object "com/example/ratabl/ratabl/model/CreditNoteRevenueImpact")) (t' := (.object "com/example/ratabl/ratabl/model/AccountingDateSource")) (by decide) (by decide)))
 have fa103 := fa94.other W99 (Or.inr (slot_ne (Or.inr (hq hw 59 rfl)) (Or.inr (hq hw 63 rfl)) (by decide) (t := (.object "com/example/ratabl/ratabl/model/LockDateMethod")) (t' := (.object "com/example/ratabl/ratabl/model/AccountingDateSource")) (by decide) (by decide)))
 have fa104 := fa95.other W99 (Or.inr (slot_ne (Or.inr (hq hw 61 rfl)) (Or.inr (hq hw 63 rfl)) (by decide) (t := (.object "java/util/Optional")) (t' := (.object "com/example/ratabl/ratabl/model/AccountingDateSource")) (by decide) (by decide)))
 have fa105 : Fld Z h99 r0 "com/example/ratabl/ratabl/model/Settings" "accountingDateSource" "Lcom/example/ratabl/ratabl/model/AccountingDateSource;" (.ref r5) := fa96.same W99
 have z106 : n0 ≤ h99.size := Nat.le_trans z97 (Nat.le_of_eq W99.size.symm)
 have hk := Nat.le_trans hk (Nat.le_of_eq W99.size.symm)
 have kp107 : Keep h0 h99 [r0] := kp98.wr W99 (Or.inl (List.mem_of_getElem? (i := 0) rfl))
 have N99 := Fr.snoc X99 N90 g_r0
 obtain ⟨fs, hr, hrun, hended, hRW⟩ := X99.leaveW (s := s) hS (by rw [show T99.heap = h99 from e99]; exact hk) (v := none) (fun _ => rfl) (BodyLoose.notSynchronized Bd)
 refine ⟨_, _, G61 _ ?_, hrun, hended, _, _, rfl, ?_, hRW.1, hRW.2.1, hRW.2.2.1, hRW.2.2.2.mono (by decide) (by decide)⟩
 ·skip
  refine st62 _ ?_
  refine XS.pop X62.here hx rfl (hb hby d3_40) rfl rfl ?_
  refine XS.aloadN X62.here hx rfl (hb hby d3_41) rfl rfl ?_
  refine XS.aloadN X62.here hx rfl (hb hby d3_42) rfl rfl ?_
  refine st63 _ ?_
  refine XS.aloadN X63.here hx rfl (hb hby d3_46) rfl rfl ?_
  refine XS.aloadN X63.here hx rfl (hb hby d3_47) rfl rfl ?_
  refine st72 _ ?_
  refine XS.aloadN X72.here hx rfl (hb hby d3_51) rfl rfl ?_
  refine XS.aloadN X72.here hx rfl (hb hby d3_52) rfl rfl ?_
  refine st81 _ ?_
  refine XS.aloadN X81.here hx rfl (hb hby d3_56) rfl rfl ?_
  refine XS.aload X81.here hx rfl (hb hby d3_57) rfl rfl ?_
  refine st90 _ ?_
  refine XS.aloadN X90.here hx rfl (hb hby d3_62) rfl rfl ?_
  refine XS.aload X90.here hx rfl (hb hby d3_63) rfl rfl ?_
  refine st99 _ ?_
  exact X99.returnOut hx Bd.returns (hb hby d3_68) hr
 ·show Q3 Z r0 r1 r2 r3 r4 r5 h0 n0 _ T99.heap _
  rw [e99]
  exact ⟨rfl, N99, kp107, fa100, fa101, fa102, fa103, fa104⟩
theorem d9_0 : decode prog_100_method_2_code 0 = .ok (.aload_n 0, 1) := by decide +kernel
theorem d9_1 : decode prog_100_method_2_code 1 = .ok (.aload_n 1, 1) := by decide +kernel
theorem d9_2 : decode prog_100_method_2_code 2 = .ok (.aload_n 2, 1) := by decide +kernel
theorem d9_3 : decode prog_100_method_2_code 3 = .ok (.aload_n 3, 1) := by decide +kernel
theorem d9_4 : decode prog_100_method_2_code 4 = .ok (.aload 4, 2) := by decide +kernel
theorem d9_6 : decode prog_100_method_2_code 6 = .ok (.getstatic 40, 3) := by decide +kernel
theorem d9_9 : decode prog_100_method_2_code 9 = .ok (.invokespecial 45, 3) := by decide +kernel
theorem pd_13 : parseMethodDescriptor "(Lcom/example/ratabl/ratabl/model/ProrationStrategy;Lcom/example/ratabl/ratabl/model/CreditNoteRevenueImpact;Lcom/example/ratabl/ratabl/model/LockDateMethod;Ljava/util/Optional;Lcom/example/ratabl/ratabl/model/AccountingDateSource;)V" = some ⟨[(.object "com/example/ratabl/ratabl/model/ProrationStrategy"), (.object "com/example/ratabl/ratabl/model/CreditNoteRevenueImpact"), (.object "com/example/ratabl/ratabl/model/LockDateMethod"), (.object "java/util/Optional"), (.object "com/example/ratabl/ratabl/model/AccountingDateSource")], none⟩ := by decide +kernel
theorem d9_12 : decode prog_100_method_2_code 12 = .ok (.return_, 1) := by decide +kernel
def Q9 (Z : State) (r0 : Addr) (r1 : Addr) (r2 : Addr) (r3 : Addr) (r4 : Addr) (eN eA eC ps crr ads sw oe efd rfd eyr ryr bt bf ic : Addr) (ksw : ClassId) (h0 : Heap) (n0 : Nat) (v : Option Value) (h : Heap) (L : List Loc) : Prop := v = none ∧ Fr n0 L ∧ Keep h0 h [r0] ∧ Exa Z h r0 "com/example/ratabl/ratabl/model/Settings" ∧ Fld Z h r0 "com/example/ratabl/ratabl/model/Settings" "allocationPartialProrationStrategy" "Lcom/example/ratabl/ratabl/model/ProrationStrategy;" (.ref r1) ∧ Fld Z h r0 "com/example/ratabl/ratabl/model/Settings" "creditNoteRevenueImpact" "Lcom/example/ratabl/ratabl/model/CreditNoteRevenueImpact;" (.ref r2) ∧ Fld Z h r0 "com/example/ratabl/ratabl/model/Settings" "lockDateMethod" "Lcom/example/ratabl/ratabl/model/LockDateMethod;" (.ref r3) ∧ Fld Z h r0 "com/example/ratabl/ratabl/model/Settings" "customLockDate" "Ljava/util/Optional;" (.ref r4)
theorem ef_rm9 (m : MethodId) (x0 : Addr) (x1 : Addr) (x2 : Addr) (x3 : Addr) (x4 : Addr) : entryFrame m #[(.ref x0), (.ref x1), (.ref x2), (.ref x3), (.ref x4)] 5 = mkF m 0 #[.val (.ref x0), .val (.ref x1), .val (.ref x2), .val (.ref x3), .val (.ref x4)] [] := by first | (simp [entryFrame, mkF, argsToLocals, Value.category]; done) | rfl
set_option maxRecDepth 65536 in
set_option maxHeartbeats 40000000 in
theorem rm9 (l : Launch) (Z : State) (a0 : Array Value) (hw : ∀ d ∈ tables_1, d.before a0 Z = true) (ws : List Jvm.Cond) (r0 : Addr) (r1 : Addr) (r2 : Addr) (r3 : Addr) (r4 : Addr) (eN eA eC ps crr ads sw oe efd rfd eyr ryr bt bf ic : Addr) (ksw : ClassId) (h0 : Heap) (n0 : Nat) (Z0 : n0 ≤ h0.size) (E0 : Exa Z h0 r0 "com/example/ratabl/ratabl/model/Settings") (FzallocationPartialProrationStrategy : Fld Z h0 r0 "com/example/ratabl/ratabl/model/Settings" "allocationPartialProrationStrategy" "Lcom/example/ratabl/ratabl/model/ProrationStrategy;" .null) (FzcreditNoteRevenueImpact : Fld Z h0 r0 "com/example/ratabl/ratabl/model/Settings" "creditNoteRevenueImpact" "Lcom/example/ratabl/ratabl/model/CreditNoteRevenueImpact;" .null) (FzlockDateMethod : Fld Z h0 r0 "com/example/ratabl/ratabl/model/Settings" "lockDateMethod" "Lcom/example/ratabl/ratabl/model/LockDateMethod;" .null) (FzcustomLockDate : Fld Z h0 r0 "com/example/ratabl/ratabl/model/Settings" "customLockDate" "Ljava/util/Optional;" .null) (FzaccountingDateSource : Fld Z h0 r0 "com/example/ratabl/ratabl/model/Settings" "accountingDateSource" "Lcom/example/ratabl/ratabl/model/AccountingDateSource;" .null) (O0 : Old Z n0 h0) (g_r0 : n0 ≤ r0) (SS : Stw Z eN eA eC ps crr ads sw oe efd rfd eyr ryr bt bf ic ksw) :
  MetFree l (⟨"com/example/ratabl/ratabl/model/Settings", "<init>", "(Lcom/example/ratabl/ratabl/model/ProrationStrategy;Lcom/example/ratabl/ratabl/model/CreditNoteRevenueImpact;Lcom/example/ratabl/ratabl/model/LockDateMethod;Ljava/util/Optional;)V"⟩ : MethodName) (head1 (Jvm.Cond.code (⟨"com/example/ratabl/ratabl/model/Settings", "<init>", "(Lcom/example/ratabl/ratabl/model/ProrationStrategy;Lcom/example/ratabl/ratabl/model/CreditNoteRevenueImpact;Lcom/example/ratabl/ratabl/model/LockDateMethod;Ljava/util/Optional;)V"⟩ : MethodName) prog_100_method_2_code 5 none :: ws) ({ frames := 3, cells := 10, slots := 440, locals := 41 } : Room)) (fun a U => a = #[(.ref r0), (.ref r1), (.ref r2), (.ref r3), (.ref r4)] ∧ Z.Warmed39 U.vm ∧ U.heap = h0) (fun _ _ _ _ _ => True) (fun _ U o U' => ∃ v L, o = .returned v ∧ Q9 Z r0 r1 r2 r3 r4 eN eA eC ps crr ads sw oe efd rfd eyr ryr bt bf ic ksw h0 n0 v U'.heap L ∧ ReturnedEndW U o U' L ({ frames := 3, cells := 10, slots := 440, locals := 41 } : Room).cells ({ frames := 3, cells := 10, slots := 440, locals := 41 } : Room).slots) := by
 refine MetFree.of_bodySF (plainFor_of_name pnc_com_example_ratabl_ratabl_model_Settings) hisR ?_
 intro p e s m args below meth c s₁ Bd hml0 hP hK
 obtain ⟨rfl, hZ, hh⟩ := hP
 have hx := Bd.exec
 have hby := Bd.bytes
 have hml : c.maxLocals = 5 := hml0
 have hown : s.vm.findClass "com/example/ratabl/ratabl/model/Settings" = some m.cls := findClass_of_methodNamed Bd.named
 have hnm := (name_of_methodNamed Bd.named Bd.method).1
 have X0 : Stand p l e ({ frames := 3, cells := 10, slots := 440, locals := 41 } : Room) s m #[(.ref r0), (.ref r1), (.ref r2), (.ref r3), (.ref r4)] below meth c s₁ [] 0 0 := Stand.of_body Bd
 have e0 : s₁.heap = h0 := by rw [← hh, Bd.state]; rfl
 have N0 := Fr.nil n0
 have kp0 : Keep h0 h0 [r0] := Keep.refl _ _
 have G0 : ∀ t, Steps p.tables e below (s₁.setTop (mkF m 0 #[rv r0, rv r1, rv r2, rv r3, rv r4] [])) t → Steps p.tables e below (s₁.setTop (entryFrame m #[(.ref r0), (.ref r1), (.ref r2), (.ref r3), (.ref r4)] 5)) t := fun t k => castTop (ef_rm9 m r0 r1 r2 r3 r4) k
 have X0 : Stand p l e ({ frames := 3, cells := 10, slots := 440, locals := 41 } : Room) (s.setVm s.vm) m #[(.ref r0), (.ref r1), (.ref r2), (.ref r3), (.ref r4)] below meth c s₁ [] 0 0 := X0
 have hZ : Z.Warmed39 (s.setVm s.vm).vm := hZ
 have hown : (s.setVm s.vm).vm.findClass "com/example/ratabl/ratabl/model/Settings" = some m.cls := hown
 have hS : s.Since s.vm 0 := (State.WarmedH.refl s).since 0
 have hk : 0 ≤ h0.size := Nat.zero_le _
 obtain ⟨T1, X1, e1, st1⟩ := getS2 X0 hx hZ hown (host := "") (Or.inl (hq hw 24 rfl)) Via.refl e0 (SS.2.2.2.2.2.1.ext O0.2) (g := (mkF m 6 #[rv r0, rv r1, rv r2, rv r3, rv r4] [(.ref r4), (.ref r3), (.ref r2), (.ref r1), (.ref r0)])) rfl (hb hby d9_6)
 have G2 : ∀ t, Steps p.tables e below (T1.setTop (mkF m 9 #[rv r0, rv r1, rv r2, rv r3, rv r4] [(.ref ads), (.ref r4), (.ref r3), (.ref r2), (.ref r1), (.ref r0)])) t → Steps p.tables e below (s₁.setTop (entryFrame m #[(.ref r0), (.ref r1), (.ref r2), (.ref r3), (.ref r4)] 5)) t := by
  intro t kt
  refine G0 _ ?_
  refine XS.aloadN X0.here hx rfl (hb hby d9_0) rfl rfl ?_
  refine XS.aloadN X0.here hx rfl (hb hby d9_1) rfl rfl ?_
  refine XS.aloadN X0.here hx rfl (hb hby d9_2) rfl rfl ?_
  refine XS.aloadN X0.here hx rfl (hb hby d9_3) rfl rfl ?_
  refine XS.aload X0.here hx rfl (hb hby d9_4) rfl rfl ?_
  refine st1 _ ?_
  exact kt
 obtain ⟨_, vm3, ⟨T3, L3, k3, n3⟩, -, X3, hS3, gr3, ⟨Lc3, hQ3, l3, y3, z3⟩, st3⟩ := X1.specialBackS hx (y := (⟨"com/example/ratabl/ratabl/model/Settings", "<init>", "(Lcom/example/ratabl/ratabl/model/ProrationStrategy;Lcom/example/ratabl/ratabl/model/CreditNoteRevenueImpact;Lcom/example/ratabl/ratabl/model/LockDateMethod;Ljava/util/Optional;Lcom/example/ratabl/ratabl/model/AccountingDateSource;)V"⟩ : MethodName)) rfl hown (mvT hZ (hq hw 27 rfl)) (mvT hZ (hq hw 28 rfl)) (mvT hZ (hq hw 29 rfl)) (by decide) (backOfS (W := 0) (rm3 l Z a0 hw [] r0 r1 r2 r3 r4 ads  h0 n0 Z0 E0 FzallocationPartialProrationStrategy FzcreditNoteRevenueImpact FzlockDateMethod FzcustomLockDate FzaccountingDateSource g_r0) hZ (hq hw 29 rfl) (hq hw 12 rfl) (by decide) (by decide)) (g := (mkF m 9 #[rv r0, rv r1, rv r2, rv r3, rv r4] [(.ref ads), (.ref r4), (.ref r3), (.ref r2), (.ref r1), (.ref r0)])) rfl (by rw [hml]; rfl) (Steps.refl _) (a := r0) (argsL := [(.ref r1), (.ref r2), (.ref r3), (.ref r4), (.ref ads)]) (rest := []) (lenOf pd_13 rfl) rfl (by show 2 * 0 + _ ≤ _; exact Nat.le_of_eq rfl) (hb hby d9_9) (fun _ _ => ⟨rfl, e1, (by decide : 0 + 10 ≤ _), (by decide : 0 + 440 ≤ _)⟩)
 dsimp only [Pt.U, Pt.locs, Pt.cells, Pt.slots] at X3 l3 y3 z3 st3 hQ3 hS3 gr3
 subst l3 y3 z3
 have hS := hS.trans hS3 (Nat.le_trans hk (by rw [← show T1.heap = h0 from e1]; exact gr3))
 have hZ : Z.Warmed39 (s.setVm T3.vm).vm := State.Warmed39.trans hZ hS3.1
 have hown : (s.setVm T3.vm).vm.findClass "com/example/ratabl/ratabl/model/Settings" = some m.cls := by rw [show (s.setVm T3.vm).vm = T3.vm from rfl, hS3.1.alike.findClass]; exact hown
 have X3 : Stand p l e ({ frames := 3, cells := 10, slots := 440, locals := 41 } : Room) (s.setVm T3.vm) m #[(.ref r0), (.ref r1), (.ref r2), (.ref r3), (.ref r4)] below meth c T3 _ _ _ := X3
 have hk : T3.heap.size ≤ T3.heap.size := Nat.le_refl _
 obtain ⟨rfl, N3q, K3, A3, F3_0, F3_1, F3_2, F3_3⟩ := hQ3
 have N3 := Fr.app N0 N3q
 have fa4 := E0.keep K3
 have fa5 := O0.keep K3 (allS g_r0 all0)
 have z6 : n0 ≤ T3.heap.size := Nat.le_trans Z0 K3.1
 have kp7 : Keep h0 T3.heap [r0] := kp0.trans K3 (allS (Or.inl (List.mem_of_getElem? (i := 0) rfl)) all0)
 obtain ⟨fs, hr, hrun, hended, hRW⟩ := X3.leaveW (s := s) hS (by rw [show T3.heap = T3.heap from rfl]; exact hk) (v := none) (fun _ => rfl) (BodyLoose.notSynchronized Bd)
 refine ⟨_, _, G2 _ ?_, hrun, hended, _, _, rfl, ?_, hRW.1, hRW.2.1, hRW.2.2.1, hRW.2.2.2.mono (by decide) (by decide)⟩
 ·skip
  refine st3.trans ?_
  exact X3.returnOut hx Bd.returns (hb hby d9_12) hr
 ·show Q9 Z r0 r1 r2 r3 r4 eN eA eC ps crr ads sw oe efd rfd eyr ryr bt bf ic ksw h0 n0 _ T3.heap _
  exact ⟨rfl, N3, kp7, fa4, F3_0, F3_1, F3_2, F3_3⟩
theorem d2_0 : decode prog_100_method_3_code 0 = .ok (.new 24, 3) := by decide +kernel
theorem d2_3 : decode prog_100_method_3_code 3 = .ok (.dup, 1) := by decide +kernel
theorem d2_4 : decode prog_100_method_3_code 4 = .ok (.getstatic 48, 3) := by decide +kernel
theorem d2_7 : decode prog_100_method_3_code 7 = .ok (.getstatic 53, 3) := by decide +kernel
theorem d2_10 : decode prog_100_method_3_code 10 = .ok (.getstatic 58, 3) := by decide +kernel
theorem d2_13 : decode prog_100_method_3_code 13 = .ok (.invokestatic 63, 3) := by decide +kernel
theorem pd_14 : parseMethodDescriptor "()Ljava/util/Optional;" = some ⟨[], some (.object "java/util/Optional")⟩ := by decide +kernel
theorem d2_16 : decode prog_100_method_3_code 16 = .ok (.getstatic 40, 3) := by decide +kernel
theorem d2_19 : decode prog_100_method_3_code 19 = .ok (.invokespecial 45, 3) := by decide +kernel
theorem d2_22 : decode prog_100_method_3_code 22 = .ok (.areturn, 1) := by decide +kernel
def Q2 (Z : State) (eN eA eC ps crr ads sw oe efd rfd eyr ryr bt bf ic : Addr) (ksw : ClassId) (h0 : Heap) (n0 : Nat) (v : Option Value) (h : Heap) (L : List Loc) : Prop := ∃ b : Addr, v = some (.ref b) ∧ Fr n0 L ∧ Keep h0 h [] ∧ Exa Z h b "com/example/ratabl/ratabl/model/Settings" ∧ Fld Z h b "com/example/ratabl/ratabl/model/Settings" "allocationPartialProrationStrategy" "Lcom/example/ratabl/ratabl/model/ProrationStrategy;" (.ref ps) ∧ Fld Z h b "com/example/ratabl/ratabl/model/Settings" "creditNoteRevenueImpact" "Lcom/example/ratabl/ratabl/model/CreditNoteRevenueImpact;" (.ref crr)
theorem ef_rm2 (m : MethodId)  : entryFrame m #[] 0 = mkF m 0 #[] [] := by first | (simp [entryFrame, mkF, argsToLocals, Value.category]; done) | rfl
set_option maxRecDepth 65536 in
set_option maxHeartbeats 40000000 in
theorem rm2 (l : Launch) (Z : State) (a0 : Array Value) (hw : ∀ d ∈ tables_1, d.before a0 Z = true) (ws : List Jvm.Cond) (eN eA eC ps crr ads sw oe efd rfd eyr ryr bt bf ic : Addr) (ksw : ClassId) (h0 : Heap) (n0 : Nat) (Z0 : n0 ≤ h0.size) (O0 : Old Z n0 h0) (SS : Stw Z eN eA eC ps crr ads sw oe efd rfd eyr ryr bt bf ic ksw) :
  MetFree l (⟨"com/example/ratabl/ratabl/model/Settings", "defaults", "()Lcom/example/ratabl/ratabl/model/Settings;"⟩ : MethodName) (head1 (Jvm.Cond.code (⟨"com/example/ratabl/ratabl/model/Settings", "defaults", "()Lcom/example/ratabl/ratabl/model/Settings;"⟩ : MethodName) prog_100_method_3_code 0 (some (.object "com/example/ratabl/ratabl/model/Settings")) :: ws) ({ frames := 3, cells := 11, slots := 445, locals := 42 } : Room)) (fun a U => a = #[] ∧ Z.Warmed39 U.vm ∧ U.heap = h0) (fun _ _ _ _ _ => True) (fun _ U o U' => ∃ v L, o = .returned v ∧ Q2 Z eN eA eC ps crr ads sw oe efd rfd eyr ryr bt bf ic ksw h0 n0 v U'.heap L ∧ ReturnedEndW U o U' L ({ frames := 3, cells := 11, slots := 445, locals := 42 } : Room).cells ({ frames := 3, cells := 11, slots := 445, locals := 42 } : Room).slots) := by
 refine MetFree.of_bodySF (plainFor_of_name pnc_com_example_ratabl_ratabl_model_Settings) hisR ?_
 intro p e s m args below meth c s₁ Bd hml0 hP hK
 obtain ⟨rfl, hZ, hh⟩ := hP
 have hx := Bd.exec
 have hby := Bd.bytes
 have hml : c.maxLocals = 0 := hml0
 have hown : s.vm.findClass "com/example/ratabl/ratabl/model/Settings" = some m.cls := findClass_of_methodNamed Bd.named
 have hnm := (name_of_methodNamed Bd.named Bd.method).1
 have X0 : Stand p l e ({ frames := 3, cells := 11, slots := 445, locals := 42 } : Room) s m #[] below meth c s₁ [] 0 0 := Stand.of_body Bd
 have e0 : s₁.heap = h0 := by rw [← hh, Bd.state]; rfl
 have N0 := Fr.nil n0
 have kp0 : Keep h0 h0 [] := Keep.refl _ _
 have G0 : ∀ t, Steps p.tables e below (s₁.setTop (mkF m 0 #[] [])) t → Steps p.tables e below (s₁.setTop (entryFrame m #[] 0)) t := fun t k => castTop (ef_rm2 m ) k
 have X0 : Stand p l e ({ frames := 3, cells := 11, slots := 445, locals := 42 } : Room) (s.setVm s.vm) m #[] below meth c s₁ [] 0 0 := X0
 have hZ : Z.Warmed39 (s.setVm s.vm).vm := hZ
 have hown : (s.setVm s.vm).vm.findClass "com/example/ratabl/ratabl/model/Settings" = some m.cls := hown
 have hS : s.Since s.vm 0 := (State.WarmedH.refl s).since 0
 have hk : 0 ≤ h0.size := Nat.zero_le _
 obtain ⟨T1, h1, X1, e1, E1, A1, D1, -, st1⟩ := newO X0 hx hZ hown (hq hw 14 rfl) (hq hw 15 rfl) (hq hw 12 rfl) e0 (g := (mkF m 0 #[] [])) rfl (hb hby d2_0) (by decide) (by decide)
 obtain ⟨b1, g1⟩ : ∃ z, z = h0.size := ⟨_, rfl⟩
 rw [← g1] at A1 D1 st1
 have g_b1 : n0 ≤ b1 := Nat.le_trans Z0 (Nat.le_of_eq g1.symm)
 have sz_b1 : h0.size ≤ b1 := Nat.le_trans kp0.1 (Nat.le_of_eq g1.symm)
 have fa2 := O0.ext E1
 have z3 : n0 ≤ h1.size := Nat.le_trans Z0 E1.1
 have hk := Nat.le_trans hk E1.1
 have kp4 : Keep h0 h1 [] := kp0.ext E1
 have fa5 : Fld Z h1 b1 "com/example/ratabl/ratabl/model/Settings" "allocationPartialProrationStrategy" "Lcom/example/ratabl/ratabl/model/ProrationStrategy;" .null := D1 (Or.inr (hq hw 55 rfl)) (ty := (.object "com/example/ratabl/ratabl/model/ProrationStrategy")) (by decide)
 have fa6 : Fld Z h1 b1 "com/example/ratabl/ratabl/model/Settings" "creditNoteRevenueImpact" "Lcom/example/ratabl/ratabl/model/CreditNoteRevenueImpact;" .null := D1 (Or.inr (hq hw 57 rfl)) (ty := (.object "com/example/ratabl/ratabl/model/CreditNoteRevenueImpact")) (by decide)
 have fa7 : Fld Z h1 b1 "com/example/ratabl/ratabl/model/Settings" "lockDateMethod" "Lcom/example/ratabl/ratabl/model/LockDateMethod;" .null := D1 (Or.inr (hq hw 59 rfl)) (ty := (.object "com/example/ratabl/ratabl/model/LockDateMethod")) (by decide)
 have fa8 : Fld Z h1 b1 "com/example/ratabl/ratabl/model/Settings" "customLockDate" "Ljava/util/Optional;" .null := D1 (Or.inr (hq hw 61 rfl)) (ty := (.object "java/util/Optional")) (by decide)
 have fa9 : Fld Z h1 b1 "com/example/ratabl/ratabl/model/Settings" "accountingDateSource" "Lcom/example/ratabl/ratabl/model/AccountingDateSource;" .null := D1 (Or.inr (hq hw 63 rfl)) (ty := (.object "com/example/ratabl/ratabl/model/AccountingDateSource")) (by decide)
 obtain ⟨T10, X10, e10, st10⟩ := getS2 X1 hx hZ hown (host := "") (Or.inl (hq hw 16 rfl)) Via.refl e1 (SS.2.2.2.1.ext fa2.2) (g := (mkF m 4 #[] [(.ref b1), (.ref b1)])) rfl (hb hby d2_4)
 obtain ⟨T11, X11, e11, st11⟩ := getS2 X10 hx hZ hown (host := "") (Or.inl (hq hw 19 rfl)) Via.refl e10 (SS.2.2.2.2.1.ext fa2.2) (g := (mkF m 7 #[] [(.ref ps), (.ref b1), (.ref b1)])) rfl (hb hby d2_7)
 obtain ⟨T12, X12, e12, st12⟩ := getS2 X11 hx hZ hown (host := "") (Or.inl (hq hw 22 rfl)) Via.refl e11 (SS.1.ext fa2.2) (g := (mkF m 10 #[] [(.ref crr), (.ref ps), (.ref b1), (.ref b1)])) rfl (hb hby d2_10)
 have G13 : ∀ t, Steps p.tables e below (T12.setTop (mkF m 13 #[] [(.ref eN), (.ref crr), (.ref ps), (.ref b1), (.ref b1)])) t → Steps p.tables e below (s₁.setTop (entryFrame m #[] 0)) t := by
  intro t kt
  refine G0 _ ?_
  refine st1 _ ?_
  refine XS.dup X1.here hx rfl (hb hby d2_3) rfl rfl ?_
  refine st10 _ ?_
  refine st11 _ ?_
  refine st12 _ ?_
  exact kt
 obtain ⟨_, _, ⟨T14, L14, k14, n14⟩, -, X14, ⟨Lc14, hQ14, l14, y14, z14⟩, st14⟩ := Jvm.LawKit.callS X12 hx (y := (⟨"java/util/Optional", "empty", "()Ljava/util/Optional;"⟩ : MethodName)) hown (mvT hZ (hq hw 23 rfl)) (mvT hZ (hq hw 6 rfl)) (mvT hZ (hq hw 7 rfl)) (mvT hZ (hq hw 8 rfl)) (by decide) (backOf (W := 5) (rm1 l Z a0 hw []  eN eA eC ps crr ads sw oe efd rfd eyr ryr bt bf ic ksw  h1 n0 z3 fa2  SS ) hZ (hq hw 8 rfl) (hq hw 7 rfl) (by decide) (by decide)) (g := (mkF m 13 #[] [(.ref eN), (.ref crr), (.ref ps), (.ref b1), (.ref b1)])) rfl (by rw [hml]; rfl) (argsL := []) (rest := [(.ref eN), (.ref crr), (.ref ps), (.ref b1), (.ref b1)]) (lenOf pd_14 rfl) rfl (by show 2 * 0 + _ ≤ _; exact Nat.le_of_eq rfl) (hb hby d2_13) (fun _ _ => ⟨rfl, e12, (by decide : 1 + 0 ≤ _), (by decide : 5 + 0 ≤ _)⟩)
 dsimp only [Pt.U, Pt.locs, Pt.cells, Pt.slots] at X14 l14 y14 z14 st14 hQ14
 subst l14 y14 z14
 obtain ⟨rfl, N14q, eh14⟩ := hQ14
 have N14 := Fr.app N0 N14q
 obtain ⟨T15, X15, e15, st15⟩ := getS2 X14 hx hZ hown (host := "") (Or.inl (hq hw 24 rfl)) Via.refl eh14 (SS.2.2.2.2.2.1.ext fa2.2) (g := (mkF m 16 #[] [(.ref oe), (.ref eN), (.ref crr), (.ref ps), (.ref b1), (.ref b1)])) rfl (hb hby d2_16)
 have G16 : ∀ t, Steps p.tables e below (T15.setTop (mkF m 19 #[] [(.ref ads), (.ref oe), (.ref eN), (.ref crr), (.ref ps), (.ref b1), (.ref b1)])) t → Steps p.tables e below (s₁.setTop (entryFrame m #[] 0)) t := by
  intro t kt
  refine G13 _ ?_
  refine st14 _ ?_
  refine st15 _ ?_
  exact kt
 obtain ⟨_, vm17, ⟨T17, L17, k17, n17⟩, -, X17, hS17, gr17, ⟨Lc17, hQ17, l17, y17, z17⟩, st17⟩ := X15.specialBackS hx (y := (⟨"com/example/ratabl/ratabl/model/Settings", "<init>", "(Lcom/example/ratabl/ratabl/model/ProrationStrategy;Lcom/example/ratabl/ratabl/model/CreditNoteRevenueImpact;Lcom/example/ratabl/ratabl/model/LockDateMethod;Ljava/util/Optional;Lcom/example/ratabl/ratabl/model/AccountingDateSource;)V"⟩ : MethodName)) rfl hown (mvT hZ (hq hw 27 rfl)) (mvT hZ (hq hw 28 rfl)) (mvT hZ (hq hw 29 rfl)) (by decide) (backOfS (W := 1) (rm3 l Z a0 hw [] b1 ps crr eN oe ads  h1 n0 z3 A1 fa5 fa6 fa7 fa8 fa9 g_b1) hZ (hq hw 29 rfl) (hq hw 12 rfl) (by decide) (by decide)) (g := (mkF m 19 #[] [(.ref ads), (.ref oe), (.ref eN), (.ref crr), (.ref ps), (.ref b1), (.ref b1)])) rfl (by rw [hml]; rfl) (Steps.refl _) (a := b1) (argsL := [(.ref ps), (.ref crr), (.ref eN), (.ref oe), (.ref ads)]) (rest := [(.ref b1)]) (lenOf pd_13 rfl) rfl (by show 2 * 0 + _ ≤ _; exact Nat.le_of_eq rfl) (hb hby d2_19) (fun _ _ => ⟨rfl, e15, (by decide : 1 + 10 ≤ _), (by decide : 5 + 440 ≤ _)⟩)
 dsimp only [Pt.U, Pt.locs, Pt.cells, Pt.slots] at X17 l17 y17 z17 st17 hQ17 hS17 gr17
 subst l17 y17 z17
 have hS := hS.trans hS17 (Nat.le_trans hk (by rw [← show T15.heap = h1 from e15]; exact gr17))
 have hZ : Z.Warmed39 (s.setVm T17.vm).vm := State.Warmed39.trans hZ hS17.1
 have hown : (s.setVm T17.vm).vm.findClass "com/example/ratabl/ratabl/model/Settings" = some m.cls := by rw [show (s.setVm T17.vm).vm = T17.vm from rfl, hS17.1.alike.findClass]; exact hown
 have X17 : Stand p l e ({ frames := 3, cells := 11, slots := 445, locals := 42 } : Room) (s.setVm T17.vm) m #[] below meth c T17 _ _ _ := X17
 have hk : T17.heap.size ≤ T17.heap.size := Nat.le_refl _
 obtain ⟨rfl, N17q, K17, A17, F17_0, F17_1, F17_2, F17_3⟩ := hQ17
 have N17 := Fr.app N14 N17q
 have fa18 := fa2.keep K17 (allS g_b1 all0)
 have fa19 := A1.keep K17
 have z20 : n0 ≤ T17.heap.size := Nat.le_trans z3 K17.1
 have kp21 : Keep h0 T17.heap [] := kp4.trans K17 (allS (Or.inr sz_b1) all0)
 obtain ⟨fs, hr, hrun, hended, hRW⟩ := X17.leaveW (s := s) hS (by rw [show T17.heap = T17.heap from rfl]; exact hk) (v := some (.ref b1)) (fun h => by rw [Bd.returns] at h; cases h) (BodyLoose.notSynchronized Bd)
 refine ⟨_, _, G16 _ ?_, hrun, hended, _, _, rfl, ?_, hRW.1, hRW.2.1, hRW.2.2.1, hRW.2.2.2.mono (by decide) (by decide)⟩
 ·skip
  refine st17.trans ?_
  exact retOut X17 hx Bd.returns rfl (Or.inr (Or.inr (Or.inr (Or.inr ⟨rfl, rfl, rfl⟩)))) (hb hby d2_22) hr
 ·show Q2 Z eN eA eC ps crr ads sw oe efd rfd eyr ryr bt bf ic ksw h0 n0 _ T17.heap _
  exact ⟨b1, rfl, N17, kp21, fa19, F17_0, F17_1⟩
theorem d7_0 : decode prog_100_method_7_code 0 = .ok (.aload_n 0, 1) := by decide +kernel
theorem d7_1 : decode prog_100_method_7_code 1 = .ok (.getfield 23, 3) := by decide +kernel
theorem d7_4 : decode prog_100_method_7_code 4 = .ok (.areturn, 1) := by decide +kernel
def Q7 (Z : State) (r0 : Addr) (xv : Addr) (h0 : Heap) (n0 : Nat) (v : Option Value) (h : Heap) (L : List Loc) : Prop := v = some (.ref xv) ∧ Fr n0 L ∧ h = h0
theorem ef_rm7 (m : MethodId) (x0 : Addr) : entryFrame m #[(.ref x0)] 1 = mkF m 0 #[.val (.ref x0)] [] := by first | (simp [entryFrame, mkF, argsToLocals, Value.category]; done) | rfl
set_option maxRecDepth 65536 in
set_option maxHeartbeats 40000000 in
theorem rm7 (l : Launch) (Z : State) (a0 : Array Value) (hw : ∀ d ∈ tables_1, d.before a0 Z = true) (ws : List Jvm.Cond) (r0 : Addr) (xv : Addr) (h0 : Heap) (n0 : Nat) (Z0 : n0 ≤ h0.size) (Fx : Fld Z h0 r0 "com/example/ratabl/ratabl/model/Settings" "allocationPartialProrationStrategy" "Lcom/example/ratabl/ratabl/model/ProrationStrategy;" (.ref xv)) :
  MetFree l (⟨"com/example/ratabl/ratabl/model/Settings", "allocationPartialProrationStrategy", "()Lcom/example/ratabl/ratabl/model/ProrationStrategy;"⟩ : MethodName) (head1 (Jvm.Cond.code (⟨"com/example/ratabl/ratabl/model/Settings", "allocationPartialProrationStrategy", "()Lcom/example/ratabl/ratabl/model/ProrationStrategy;"⟩ : MethodName) prog_100_method_7_code 1 (some (.object "com/example/ratabl/ratabl/model/ProrationStrategy")) :: ws) ({ frames := 0, cells := 0, slots := 0, locals := 0 } : Room)) (fun a U => a = #[(.ref r0)] ∧ Z.Warmed39 U.vm ∧ U.heap = h0) (fun _ _ _ _ _ => True) (fun _ U o U' => ∃ v L, o = .returned v ∧ Q7 Z r0 xv h0 n0 v U'.heap L ∧ FrameEnd U o U' L ({ frames := 0, cells := 0, slots := 0, locals := 0 } : Room).cells ({ frames := 0, cells := 0, slots := 0, locals := 0 } : Room).slots) := by
 refine MetFree.of_bodySF (plainFor_of_name pnc_com_example_ratabl_ratabl_model_Settings) hisR ?_
 intro p e s m args below meth c s₁ Bd hml0 hP hK
 obtain ⟨rfl, hZ, hh⟩ := hP
 have hx := Bd.exec
 have hby := Bd.bytes
 have hml : c.maxLocals = 1 := hml0
 have hown : s.vm.findClass "com/example/ratabl/ratabl/model/Settings" = some m.cls := findClass_of_methodNamed Bd.named
 have hnm := (name_of_methodNamed Bd.named Bd.method).1
 have X0 : Stand p l e ({ frames := 0, cells := 0, slots := 0, locals := 0 } : Room) s m #[(.ref r0)] below meth c s₁ [] 0 0 := Stand.of_body Bd
 have e0 : s₁.heap = h0 := by rw [← hh, Bd.state]; rfl
 have N0 := Fr.nil n0
 have kp0 : Keep h0 h0 [] := Keep.refl _ _
 have G0 : ∀ t, Steps p.tables e below (s₁.setTop (mkF m 0 #[rv r0] [])) t → Steps p.tables e below (s₁.setTop (entryFrame m #[(.ref r0)] 1)) t := fun t k => castTop (ef_rm7 m r0) k
 obtain ⟨T1, X1, e1, st1⟩ := getF X0 hx hZ hown (host := "") (Or.inl (hq hw 54 rfl)) Via.refl e0 Fx (g := (mkF m 1 #[rv r0] [(.ref r0)])) rfl rfl (hb hby d7_1)
 obtain ⟨fs, hr, hrun, hended, hW, hsame⟩ := X1.leave (v := some (.ref xv)) (fun h => by rw [Bd.returns] at h; cases h)
 refine ⟨_, _, G0 _ ?_, hrun, hended, _, _, rfl, ?_, ⟨_, rfl⟩, hW, hsame.mono (by decide) (by decide)⟩
 ·skip
  refine XS.aloadN X0.here hx rfl (hb hby d7_0) rfl rfl ?_
  refine st1 _ ?_
  exact retOut X1 hx Bd.returns rfl (Or.inr (Or.inr (Or.inr (Or.inr ⟨rfl, rfl, rfl⟩)))) (hb hby d7_4) hr
 ·show Q7 Z r0 xv h0 n0 _ T1.heap _
  rw [e1]
  exact ⟨rfl, N0, rfl⟩
theorem d8_0 : decode prog_100_method_8_code 0 = .ok (.aload_n 0, 1) := by decide +kernel
theorem d8_1 : decode prog_100_method_8_code 1 = .ok (.getfield 28, 3) := by decide +kernel
theorem d8_4 : decode prog_100_method_8_code 4 = .ok (.areturn, 1) := by decide +kernel
def Q8 (Z : State) (r0 : Addr) (xv : Addr) (h0 : Heap) (n0 : Nat) (v : Option Value) (h : Heap) (L : List Loc) : Prop := v = some (.ref xv) ∧ Fr n0 L ∧ h = h0
theorem ef_rm8 (m : MethodId) (x0 : Addr) : entryFrame m #[(.ref x0)] 1 = mkF m 0 #[.val (.ref x0)] [] := by first | (simp [entryFrame, mkF, argsToLocals, Value.category]; done) | rfl
set_option maxRecDepth 65536 in
set_option maxHeartbeats 40000000 in
theorem rm8 (l : Launch) (Z : State) (a0 : Array Value) (hw : ∀ d ∈ tables_1, d.before a0 Z = true) (ws : List Jvm.Cond) (r0 : Addr) (xv : Addr) (h0 : Heap) (n0 : Nat) (Z0 : n0 ≤ h0.size) (Fx : Fld Z h0 r0 "com/example/ratabl/ratabl/model/Settings" "creditNoteRevenueImpact" "Lcom/example/ratabl/ratabl/model/CreditNoteRevenueImpact;" (.ref xv)) :
  MetFree l (⟨"com/example/ratabl/ratabl/model/Settings", "creditNoteRevenueImpact", "()Lcom/example/ratabl/ratabl/model/CreditNoteRevenueImpact;"⟩ : MethodName) (head1 (Jvm.Cond.code (⟨"com/example/ratabl/ratabl/model/Settings", "creditNoteRevenueImpact", "()Lcom/example/ratabl/ratabl/model/CreditNoteRevenueImpact;"⟩ : MethodName) prog_100_method_8_code 1 (some (.object "com/example/ratabl/ratabl/model/CreditNoteRevenueImpact")) :: ws) ({ frames := 0, cells := 0, slots := 0, locals := 0 } : Room)) (fun a U => a = #[(.ref r0)] ∧ Z.Warmed39 U.vm ∧ U.heap = h0) (fun _ _ _ _ _ => True) (fun _ U o U' => ∃ v L, o = .returned v ∧ Q8 Z r0 xv h0 n0 v U'.heap L ∧ FrameEnd U o U' L ({ frames := 0, cells := 0, slots := 0, locals := 0 } : Room).cells ({ frames := 0, cells := 0, slots := 0, locals := 0 } : Room).slots) := by
 refine MetFree.of_bodySF (plainFor_of_name pnc_com_example_ratabl_ratabl_model_Settings) hisR ?_
 intro p e s m args below meth c s₁ Bd hml0 hP hK
 obtain ⟨rfl, hZ, hh⟩ := hP
 have hx := Bd.exec
 have hby := Bd.bytes
 have hml : c.maxLocals = 1 := hml0
 have hown : s.vm.findClass "com/example/ratabl/ratabl/model/Settings" = some m.cls := findClass_of_methodNamed Bd.named
 have hnm := (name_of_methodNamed Bd.named Bd.method).1
 have X0 : Stand p l e ({ frames := 0, cells := 0, slots := 0, locals := 0 } : Room) s m #[(.ref r0)] below meth c s₁ [] 0 0 := Stand.of_body Bd
 have e0 : s₁.heap = h0 := by rw [← hh, Bd.state]; rfl
 have N0 := Fr.nil n0
 have kp0 : Keep h0 h0 [] := Keep.refl _ _
 have G0 : ∀ t, Steps p.tables e below (s₁.setTop (mkF m 0 #[rv r0] [])) t → Steps p.tables e below (s₁.setTop (entryFrame m #[(.ref r0)] 1)) t := fun t k => castTop (ef_rm8 m r0) k
 obtain ⟨T1, X1, e1, st1⟩ := getF X0 hx hZ hown (host := "") (Or.inl (hq hw 56 rfl)) Via.refl e0 Fx (g := (mkF m 1 #[rv r0] [(.ref r0)])) rfl rfl (hb hby d8_1)
 obtain ⟨fs, hr, hrun, hended, hW, hsame⟩ := X1.leave (v := some (.ref xv)) (fun h => by rw [Bd.returns] at h; cases h)
 refine ⟨_, _, G0 _ ?_, hrun, hended, _, _, rfl, ?_, ⟨_, rfl⟩, hW, hsame.mono (by decide) (by decide)⟩
 ·skip
  refine XS.aloadN X0.here hx rfl (hb hby d8_0) rfl rfl ?_
  refine st1 _ ?_
  exact retOut X1 hx Bd.returns rfl (Or.inr (Or.inr (Or.inr (Or.inr ⟨rfl, rfl, rfl⟩)))) (hb hby d8_4) hr
 ·show Q8 Z r0 xv h0 n0 _ T1.heap _
  rw [e1]
  exact ⟨rfl, N0, rfl⟩
theorem d11_0 : decode prog_100_method_9_code 0 = .ok (.aload_n 0, 1) := by decide +kernel
theorem d11_1 : decode prog_100_method_9_code 1 = .ok (.getfield 31, 3) := by decide +kernel
theorem d11_4 : decode prog_100_method_9_code 4 = .ok (.areturn, 1) := by decide +kernel
def Q11 (Z : State) (r0 : Addr) (xv : Addr) (h0 : Heap) (n0 : Nat) (v : Option Value) (h : Heap) (L : List Loc) : Prop := v = some (.ref xv) ∧ Fr n0 L ∧ h = h0
theorem ef_rm11 (m : MethodId) (x0 : Addr) : entryFrame m #[(.ref x0)] 1 = mkF m 0 #[.val (.ref x0)] [] := by first | (simp [entryFrame, mkF, argsToLocals, Value.category]; done) | rfl
set_option maxRecDepth 65536 in
set_option maxHeartbeats 40000000 in
theorem rm11 (l : Launch) (Z : State) (a0 : Array Value) (hw : ∀ d ∈ tables_1, d.before a0 Z = true) (ws : List Jvm.Cond) (r0 : Addr) (xv : Addr) (h0 : Heap) (n0 : Nat) (Z0 : n0 ≤ h0.size) (Fx : Fld Z h0 r0 "com/example/ratabl/ratabl/model/Settings" "lockDateMethod" "Lcom/example/ratabl/ratabl/model/LockDateMethod;" (.ref xv)) :
  MetFree l (⟨"com/example/ratabl/ratabl/model/Settings", "lockDateMethod", "()Lcom/example/ratabl/ratabl/model/LockDateMethod;"⟩ : MethodName) (head1 (Jvm.Cond.code (⟨"com/example/ratabl/ratabl/model/Settings", "lockDateMethod", "()Lcom/example/ratabl/ratabl/model/LockDateMethod;"⟩ : MethodName) prog_100_method_9_code 1 (some (.object "com/example/ratabl/ratabl/model/LockDateMethod")) :: ws) ({ frames := 0, cells := 0, slots := 0, locals := 0 } : Room)) (fun a U => a = #[(.ref r0)] ∧ Z.Warmed39 U.vm ∧ U.heap = h0) (fun _ _ _ _ _ => True) (fun _ U o U' => ∃ v L, o = .returned v ∧ Q11 Z r0 xv h0 n0 v U'.heap L ∧ FrameEnd U o U' L ({ frames := 0, cells := 0, slots := 0, locals := 0 } : Room).cells ({ frames := 0, cells := 0, slots := 0, locals := 0 } : Room).slots) := by
 refine MetFree.of_bodySF (plainFor_of_name pnc_com_example_ratabl_ratabl_model_Settings) hisR ?_
 intro p e s m args below meth c s₁ Bd hml0 hP hK
 obtain ⟨rfl, hZ, hh⟩ := hP
 have hx := Bd.exec
 have hby := Bd.bytes
 have hml : c.maxLocals = 1 := hml0
 have hown : s.vm.findClass "com/example/ratabl/ratabl/model/Settings" = some m.cls := findClass_of_methodNamed Bd.named
 have hnm := (name_of_methodNamed Bd.named Bd.method).1
 have X0 : Stand p l e ({ frames := 0, cells := 0, slots := 0, locals := 0 } : Room) s m #[(.ref r0)] below meth c s₁ [] 0 0 := Stand.of_body Bd
 have e0 : s₁.heap = h0 := by rw [← hh, Bd.state]; rfl
 have N0 := Fr.nil n0
 have kp0 : Keep h0 h0 [] := Keep.refl _ _
 have G0 : ∀ t, Steps p.tables e below (s₁.setTop (mkF m 0 #[rv r0] [])) t → Steps p.tables e below (s₁.setTop (entryFrame m #[(.ref r0)] 1)) t := fun t k => castTop (ef_rm11 m r0) k
 obtain ⟨T1, X1, e1, st1⟩ := getF X0 hx hZ hown (host := "") (Or.inl (hq hw 58 rfl)) Via.refl e0 Fx (g := (mkF m 1 #[rv r0] [(.ref r0)])) rfl rfl (hb hby d11_1)
 obtain ⟨fs, hr, hrun, hended, hW, hsame⟩ := X1.leave (v := some (.ref xv)) (fun h => by rw [Bd.returns] at h; cases h)
 refine ⟨_, _, G0 _ ?_, hrun, hended, _, _, rfl, ?_, ⟨_, rfl⟩, hW, hsame.mono (by decide) (by decide)⟩
 ·skip
  refine XS.aloadN X0.here hx rfl (hb hby d11_0) rfl rfl ?_
  refine st1 _ ?_
  exact retOut X1 hx Bd.returns rfl (Or.inr (Or.inr (Or.inr (Or.inr ⟨rfl, rfl, rfl⟩)))) (hb hby d11_4) hr
 ·show Q11 Z r0 xv h0 n0 _ T1.heap _
  rw [e1]
  exact ⟨rfl, N0, rfl⟩
theorem d12_0 : decode prog_100_method_10_code 0 = .ok (.aload_n 0, 1) := by decide +kernel
theorem d12_1 : decode prog_100_method_10_code 1 = .ok (.getfield 34, 3) := by decide +kernel
theorem d12_4 : decode prog_100_method_10_code 4 = .ok (.areturn, 1) := by decide +kernel
def Q12 (Z : State) (r0 : Addr) (xv : Addr) (h0 : Heap) (n0 : Nat) (v : Option Value) (h : Heap) (L : List Loc) : Prop := v = some (.ref xv) ∧ Fr n0 L ∧ h = h0
theorem ef_rm12 (m : MethodId) (x0 : Addr) : entryFrame m #[(.ref x0)] 1 = mkF m 0 #[.val (.ref x0)] [] := by first | (simp [entryFrame, mkF, argsToLocals, Value.category]; done) | rfl
set_option maxRecDepth 65536 in
set_option maxHeartbeats 40000000 in
theorem rm12 (l : Launch) (Z : State) (a0 : Array Value) (hw : ∀ d ∈ tables_1, d.before a0 Z = true) (ws : List Jvm.Cond) (r0 : Addr) (xv : Addr) (h0 : Heap) (n0 : Nat) (Z0 : n0 ≤ h0.size) (Fx : Fld Z h0 r0 "com/example/ratabl/ratabl/model/Settings" "customLockDate" "Ljava/util/Optional;" (.ref xv)) :
  MetFree l (⟨"com/example/ratabl/ratabl/model/Settings", "customLockDate", "()Ljava/util/Optional;"⟩ : MethodName) (head1 (Jvm.Cond.code (⟨"com/example/ratabl/ratabl/model/Settings", "customLockDate", "()Ljava/util/Optional;"⟩ : MethodName) prog_100_method_10_code 1 (some (.object "java/util/Optional")) :: ws) ({ frames := 0, cells := 0, slots := 0, locals := 0 } : Room)) (fun a U => a = #[(.ref r0)] ∧ Z.Warmed39 U.vm ∧ U.heap = h0) (fun _ _ _ _ _ => True) (fun _ U o U' => ∃ v L, o = .returned v ∧ Q12 Z r0 xv h0 n0 v U'.heap L ∧ FrameEnd U o U' L ({ frames := 0, cells := 0, slots := 0, locals := 0 } : Room).cells ({ frames := 0, cells := 0, slots := 0, locals := 0 } : Room).slots) := by
 refine MetFree.of_bodySF (plainFor_of_name pnc_com_example_ratabl_ratabl_model_Settings) hisR ?_
 intro p e s m args below meth c s₁ Bd hml0 hP hK
 obtain ⟨rfl, hZ, hh⟩ := hP
 have hx := Bd.exec
 have hby := Bd.bytes
 have hml : c.maxLocals = 1 := hml0
 have hown : s.vm.findClass "com/example/ratabl/ratabl/model/Settings" = some m.cls := findClass_of_methodNamed Bd.named
 have hnm := (name_of_methodNamed Bd.named Bd.method).1
 have X0 : Stand p l e ({ frames := 0, cells := 0, slots := 0, locals := 0 } : Room) s m #[(.ref r0)] below meth c s₁ [] 0 0 := Stand.of_body Bd
 have e0 : s₁.heap = h0 := by rw [← hh, Bd.state]; rfl
 have N0 := Fr.nil n0
 have kp0 : Keep h0 h0 [] := Keep.refl _ _
 have G0 : ∀ t, Steps p.tables e below (s₁.setTop (mkF m 0 #[rv r0] [])) t → Steps p.tables e below (s₁.setTop (entryFrame m #[(.ref r0)] 1)) t := fun t k => castTop (ef_rm12 m r0) k
 obtain ⟨T1, X1, e1, st1⟩ := getF X0 hx hZ hown (host := "") (Or.inl (hq hw 60 rfl)) Via.refl e0 Fx (g := (mkF m 1 #[rv r0] [(.ref r0)])) rfl rfl (hb hby d12_1)
 obtain ⟨fs, hr, hrun, hended, hW, hsame⟩ := X1.leave (v := some (.ref xv)) (fun h => by rw [Bd.returns] at h; cases h)
 refine ⟨_, _, G0 _ ?_, hrun, hended, _, _, rfl, ?_, ⟨_, rfl⟩, hW, hsame.mono (by decide) (by decide)⟩
 ·skip
  refine XS.aloadN X0.here hx rfl (hb hby d12_0) rfl rfl ?_
  refine st1 _ ?_
  exact retOut X1 hx Bd.returns rfl (Or.inr (Or.inr (Or.inr (Or.inr ⟨rfl, rfl, rfl⟩)))) (hb hby d12_4) hr
 ·show Q12 Z r0 xv h0 n0 _ T1.heap _
  rw [e1]
  exact ⟨rfl, N0, rfl⟩
theorem d13_0 : decode prog_38_method_1_code 0 = .ok (.aload_n 0, 1) := by decide +kernel
theorem d13_1 : decode prog_38_method_1_code 1 = .ok (.invokespecial 1, 3) := by decide +kernel
theorem d13_4 : decode prog_38_method_1_code 4 = .ok (.aload_n 0, 1) := by decide +kernel
theorem d13_5 : decode prog_38_method_1_code 5 = .ok (.aload_n 1, 1) := by decide +kernel
theorem d13_6 : decode prog_38_method_1_code 6 = .ok (.putfield 7, 3) := by decide +kernel
theorem d13_9 : decode prog_38_method_1_code 9 = .ok (.aload_n 0, 1) := by decide +kernel
theorem d13_10 : decode prog_38_method_1_code 10 = .ok (.aload_n 2, 1) := by decide +kernel
theorem d13_11 : decode prog_38_method_1_code 11 = .ok (.putfield 13, 3) := by decide +kernel
theorem d13_14 : decode prog_38_method_1_code 14 = .ok (.return_, 1) := by decide +kernel
def Q13 (Z : State) (r0 : Addr) (r1 : Addr) (r2 : Addr) (h0 : Heap) (n0 : Nat) (v : Option Value) (h : Heap) (L : List Loc) : Prop := v = none ∧ Fr n0 L ∧ Keep h0 h [r0] ∧ Exa Z h r0 "com/example/ratabl/ratabl/engine/Lock" ∧ Fld Z h r0 "com/example/ratabl/ratabl/engine/Lock" "method" "Lcom/example/ratabl/ratabl/model/LockDateMethod;" (.ref r1) ∧ Fld Z h r0 "com/example/ratabl/ratabl/engine/Lock" "lockDate" "Ljava/util/Optional;" (.ref r2)
theorem ef_rm13 (m : MethodId) (x0 : Addr) (x1 : Addr) (x2 : Addr) : entryFrame m #[(.ref x0), (.ref x1), (.ref x2)] 3 = mkF m 0 #[.val (.ref x0), .val (.ref x1), .val (.ref x2)] [] := by first | (simp [entryFrame, mkF, argsToLocals, Value.category]; done) | rfl
theorem pnc_com_example_ratabl_ratabl_engine_Lock : plainName "com/example/ratabl/ratabl/engine/Lock" = true := by first | (simp [plainName, overriddenIn]; done) | decide +kernel
set_option maxRecDepth 65536 in
set_option maxHeartbeats 40000000 in
theorem rm13 (l : Launch) (Z : State) (a0 : Array Value) (hw : ∀ d ∈ tables_1, d.before a0 Z = true) (ws : List Jvm.Cond) (r0 : Addr) (r1 : Addr) (r2 : Addr) (h0 : Heap) (n0 : Nat) (Z0 : n0 ≤ h0.size) (E0 : Exa Z h0 r0 "com/example/ratabl/ratabl/engine/Lock") (Fzmethod : Fld Z h0 r0 "com/example/ratabl/ratabl/engine/Lock" "method" "Lcom/example/ratabl/ratabl/model/LockDateMethod;" .null) (FzlockDate : Fld Z h0 r0 "com/example/ratabl/ratabl/engine/Lock" "lockDate" "Ljava/util/Optional;" .null) (g_r0 : n0 ≤ r0) :
  MetFree l (⟨"com/example/ratabl/ratabl/engine/Lock", "<init>", "(Lcom/example/ratabl/ratabl/model/LockDateMethod;Ljava/util/Optional;)V"⟩ : MethodName) (head1 (Jvm.Cond.code (⟨"com/example/ratabl/ratabl/engine/Lock", "<init>", "(Lcom/example/ratabl/ratabl/model/LockDateMethod;Ljava/util/Optional;)V"⟩ : MethodName) prog_38_method_1_code 3 none :: ws) ({ frames := 1, cells := 0, slots := 0, locals := 12 } : Room)) (fun a U => a = #[(.ref r0), (.ref r1), (.ref r2)] ∧ Z.Warmed39 U.vm ∧ U.heap = h0) (fun _ _ _ _ _ => True) (fun _ U o U' => ∃ v L, o = .returned v ∧ Q13 Z r0 r1 r2 h0 n0 v U'.heap L ∧ FrameEnd U o U' L ({ frames := 1, cells := 0, slots := 0, locals := 12 } : Room).cells ({ frames := 1, cells := 0, slots := 0, locals := 12 } : Room).slots) := by
 refine MetFree.of_bodySF (plainFor_of_name pnc_com_example_ratabl_ratabl_engine_Lock) hisR ?_
 intro p e s m args below meth c s₁ Bd hml0 hP hK
 obtain ⟨rfl, hZ, hh⟩ := hP
 have hx := Bd.exec
 have hby := Bd.bytes
 have hml : c.maxLocals = 3 := hml0
 have hown : s.vm.findClass "com/example/ratabl/ratabl/engine/Lock" = some m.cls := findClass_of_methodNamed Bd.named
 have hnm := (name_of_methodNamed Bd.named Bd.method).1
 have X0 : Stand p l e ({ frames := 1, cells := 0, slots := 0, locals := 12 } : Room) s m #[(.ref r0), (.ref r1), (.ref r2)] below meth c s₁ [] 0 0 := Stand.of_body Bd
 have e0 : s₁.heap = h0 := by rw [← hh, Bd.state]; rfl
 have N0 := Fr.nil n0
 have kp0 : Keep h0 h0 [r0] := Keep.refl _ _
 have G0 : ∀ t, Steps p.tables e below (s₁.setTop (mkF m 0 #[rv r0, rv r1, rv r2] [])) t → Steps p.tables e below (s₁.setTop (entryFrame m #[(.ref r0), (.ref r1), (.ref r2)] 3)) t := fun t k => castTop (ef_rm13 m r0 r1 r2) k
 obtain ⟨T1, X1, e1, st1⟩ := initO X0 hx hZ hown (hq hw 97 rfl) (hq hw 36 rfl) (hq hw 37 rfl) e0 (g := (mkF m 1 #[rv r0, rv r1, rv r2] [(.ref r0)])) rfl (by rw [hml]; rfl) rfl (hb hby d13_1) (by decide) (W := 0) (by show 2 * 0 + _ ≤ _; exact Nat.le_of_eq rfl) (by decide)
 obtain ⟨T2, h2, X2, e2, W2, st2⟩ := putF X1 hx hZ hown (host := "") (Or.inl (hq hw 98 rfl)) Via.refl e1 Fzmethod E0 (Or.inr ⟨(hq hw 99 rfl), rfl, hnm⟩) (hq hw 83 rfl) (ty := (.object "com/example/ratabl/ratabl/model/LockDateMethod")) (by decide) rfl rfl (g := (mkF m 6 #[rv r0, rv r1, rv r2] [(.ref r1), (.ref r0)])) rfl rfl (hb hby d13_6)
 have fa3 := E0.wr W2
 have fa4 : Fld Z h2 r0 "com/example/ratabl/ratabl/engine/Lock" "method" "Lcom/example/ratabl/ratabl/model/LockDateMethod;" (.ref r1) := Fzmethod.same W2
 have fa5 := FzlockDate.other W2 (Or.inr (slot_ne (Or.inr (hq hw 101 rfl)) (Or.inr (hq hw 99 rfl)) (by decide) (t := (.object "java/util/Optional")) (t' := (.object "com/example/ratabl/ratabl/model/LockDateMethod")) (by decide) (by decide)))
 have z6 : n0 ≤ h2.size := Nat.le_trans Z0 (Nat.le_of_eq W2.size.symm)
 have kp7 : Keep h0 h2 [r0] := kp0.wr W2 (Or.inl (List.mem_of_getElem? (i := 0) rfl))
 have N2 := Fr.snoc X2 N0 g_r0
 obtain ⟨T8, h8, X8, e8, W8, st8⟩ := putF X2 hx hZ hown (host := "") (Or.inl (hq hw 100 rfl)) Via.refl e2 fa5 fa3 (Or.inr ⟨(hq hw 101 rfl), rfl, hnm⟩) (hq hw 83 rfl) (ty := (.object "java/util/Optional")) (by decide) rfl rfl (g := (mkF m 11 #[rv r0, rv r1, rv r2] [(.ref r2), (.ref r0)])) rfl rfl (hb hby d13_11)
 have fa9 := fa3.wr W8
 have fa10 := fa4.other W8 (Or.inr (slot_ne (Or.inr (hq hw 99 rfl)) (Or.inr (hq hw 101 rfl)) (by decide) (t := (.object "com/example/ratabl/ratabl/model/LockDateMethod")) (t' := (.object "java/util/Optional")) (by decide) (by decide)))
 have fa11 : Fld Z h8 r0 "com/example/ratabl/ratabl/engine/Lock" "lockDate" "Ljava/util/Optional;" (.ref r2) := fa5.same W8
 have z12 : n0 ≤ h8.size := Nat.le_trans z6 (Nat.le_of_eq W8.size.symm)
 have kp13 : Keep h0 h8 [r0] := kp7.wr W8 (Or.inl (List.mem_of_getElem? (i := 0) rfl))
 have N8 := Fr.snoc X8 N2 g_r0
 obtain ⟨fs, hr, hrun, hended, hW, hsame⟩ := X8.leave (v := none) (fun _ => rfl)
 refine ⟨_, _, G0 _ ?_, hrun, hended, _, _, rfl, ?_, ⟨_, rfl⟩, hW, hsame.mono (by decide) (by decide)⟩
 ·skip
  refine XS.aloadN X0.here hx rfl (hb hby d13_0) rfl rfl ?_
  refine st1 _ ?_
  refine XS.aloadN X1.here hx rfl (hb hby d13_4) rfl rfl ?_
  refine XS.aloadN X1.here hx rfl (hb hby d13_5) rfl rfl ?_
  refine st2 _ ?_
  refine XS.aloadN X2.here hx rfl (hb hby d13_9) rfl rfl ?_
  refine XS.aloadN X2.here hx rfl (hb hby d13_10) rfl rfl ?_
  refine st8 _ ?_
  exact X8.returnOut hx Bd.returns (hb hby d13_14) hr
 ·show Q13 Z r0 r1 r2 h0 n0 _ T8.heap _
  rw [e8]
  exact ⟨rfl, N8, kp13, fa9, fa10, fa11⟩
theorem d10_0 : decode prog_38_method_2_code 0 = .ok (.new 8, 3) := by decide +kernel
theorem d10_3 : decode prog_38_method_2_code 3 = .ok (.dup, 1) := by decide +kernel
theorem d10_4 : decode prog_38_method_2_code 4 = .ok (.aload_n 0, 1) := by decide +kernel
theorem d10_5 : decode prog_38_method_2_code 5 = .ok (.invokevirtual 17, 3) := by decide +kernel
theorem pd_15 : parseMethodDescriptor "()Lcom/example/ratabl/ratabl/model/LockDateMethod;" = some ⟨[], some (.object "com/example/ratabl/ratabl/model/LockDateMethod")⟩ := by decide +kernel
theorem d10_8 : decode prog_38_method_2_code 8 = .ok (.aload_n 0, 1) := by decide +kernel
theorem d10_9 : decode prog_38_method_2_code 9 = .ok (.invokevirtual 23, 3) := by decide +kernel
theorem d10_12 : decode prog_38_method_2_code 12 = .ok (.invokespecial 27, 3) := by decide +kernel
theorem pd_16 : parseMethodDescriptor "(Lcom/example/ratabl/ratabl/model/LockDateMethod;Ljava/util/Optional;)V" = some ⟨[(.object "com/example/ratabl/ratabl/model/LockDateMethod"), (.object "java/util/Optional")], none⟩ := by decide +kernel
theorem d10_15 : decode prog_38_method_2_code 15 = .ok (.areturn, 1) := by decide +kernel
def Q10 (Z : State) (r0 : Addr) (xm xo : Addr) (h0 : Heap) (n0 : Nat) (v : Option Value) (h : Heap) (L : List Loc) : Prop := ∃ b : Addr, v = some (.ref b) ∧ Fr n0 L ∧ Keep h0 h [] ∧ Exa Z h b "com/example/ratabl/ratabl/engine/Lock" ∧ Fld Z h b "com/example/ratabl/ratabl/engine/Lock" "method" "Lcom/example/ratabl/ratabl/model/LockDateMethod;" (.ref xm) ∧ Fld Z h b "com/example/ratabl/ratabl/engine/Lock" "lockDate" "Ljava/util/Optional;" (.ref xo)
theorem ef_rm10 (m : MethodId) (x0 : Addr) : entryFrame m #[(.ref x0)] 1 = mkF m 0 #[.val (.ref x0)] [] := by first | (simp [entryFrame, mkF, argsToLocals, Value.category]; done) | rfl
set_option maxRecDepth 65536 in
set_option maxHeartbeats 40000000 in
theorem rm10 (l : Launch) (Z : State) (a0 : Array Value) (hw : ∀ d ∈ tables_1, d.before a0 Z = true) (ws : List Jvm.Cond) (r0 : Addr) (xm xo : Addr) (h0 : Heap) (n0 : Nat) (Z0 : n0 ≤ h0.size) (Es : Exa Z h0 r0 "com/example/ratabl/ratabl/model/Settings") (Fm : Fld Z h0 r0 "com/example/ratabl/ratabl/model/Settings" "lockDateMethod" "Lcom/example/ratabl/ratabl/model/LockDateMethod;" (.ref xm)) (Fo : Fld Z h0 r0 "com/example/ratabl/ratabl/model/Settings" "customLockDate" "Ljava/util/Optional;" (.ref xo)) :
  MetFree l (⟨"com/example/ratabl/ratabl/engine/Lock", "of", "(Lcom/example/ratabl/ratabl/model/Settings;)Lcom/example/ratabl/ratabl/engine/Lock;"⟩ : MethodName) (head1 (Jvm.Cond.code (⟨"com/example/ratabl/ratabl/engine/Lock", "of", "(Lcom/example/ratabl/ratabl/model/Settings;)Lcom/example/ratabl/ratabl/engine/Lock;"⟩ : MethodName) prog_38_method_2_code 1 (some (.object "com/example/ratabl/ratabl/engine/Lock")) :: ws) ({ frames := 2, cells := 1, slots := 2, locals := 27 } : Room)) (fun a U => a = #[(.ref r0)] ∧ Z.Warmed39 U.vm ∧ U.heap = h0) (fun _ _ _ _ _ => True) (fun _ U o U' => ∃ v L, o = .returned v ∧ Q10 Z r0 xm xo h0 n0 v U'.heap L ∧ FrameEnd U o U' L ({ frames := 2, cells := 1, slots := 2, locals := 27 } : Room).cells ({ frames := 2, cells := 1, slots := 2, locals := 27 } : Room).slots) := by
 refine MetFree.of_bodySF (plainFor_of_name pnc_com_example_ratabl_ratabl_engine_Lock) hisR ?_
 intro p e s m args below meth c s₁ Bd hml0 hP hK
 obtain ⟨rfl, hZ, hh⟩ := hP
 have hx := Bd.exec
 have hby := Bd.bytes
 have hml : c.maxLocals = 1 := hml0
 have hown : s.vm.findClass "com/example/ratabl/ratabl/engine/Lock" = some m.cls := findClass_of_methodNamed Bd.named
 have hnm := (name_of_methodNamed Bd.named Bd.method).1
 have X0 : Stand p l e ({ frames := 2, cells := 1, slots := 2, locals := 27 } : Room) s m #[(.ref r0)] below meth c s₁ [] 0 0 := Stand.of_body Bd
 have e0 : s₁.heap = h0 := by rw [← hh, Bd.state]; rfl
 have N0 := Fr.nil n0
 have kp0 : Keep h0 h0 [] := Keep.refl _ _
 have G0 : ∀ t, Steps p.tables e below (s₁.setTop (mkF m 0 #[rv r0] [])) t → Steps p.tables e below (s₁.setTop (entryFrame m #[(.ref r0)] 1)) t := fun t k => castTop (ef_rm10 m r0) k
 obtain ⟨T1, h1, X1, e1, E1, A1, D1, -, st1⟩ := newO X0 hx hZ hown (hq hw 82 rfl) (hq hw 83 rfl) (hq hw 80 rfl) e0 (g := (mkF m 0 #[rv r0] [])) rfl (hb hby d10_0) (by decide) (by decide)
 obtain ⟨b1, g1⟩ : ∃ z, z = h0.size := ⟨_, rfl⟩
 rw [← g1] at A1 D1 st1
 have g_b1 : n0 ≤ b1 := Nat.le_trans Z0 (Nat.le_of_eq g1.symm)
 have sz_b1 : h0.size ≤ b1 := Nat.le_trans kp0.1 (Nat.le_of_eq g1.symm)
 have ne_r0_b1 : r0 ≠ b1 := Nat.ne_of_lt (Nat.lt_of_lt_of_le Es.lt (Nat.le_of_eq g1.symm))
 have fa2 := Es.ext E1
 have fa3 := Fm.ext E1
 have fa4 := Fo.ext E1
 have z5 : n0 ≤ h1.size := Nat.le_trans Z0 E1.1
 have kp6 : Keep h0 h1 [] := kp0.ext E1
 have fa7 : Fld Z h1 b1 "com/example/ratabl/ratabl/engine/Lock" "method" "Lcom/example/ratabl/ratabl/model/LockDateMethod;" .null := D1 (Or.inr (hq hw 99 rfl)) (ty := (.object "com/example/ratabl/ratabl/model/LockDateMethod")) (by decide)
 have fa8 : Fld Z h1 b1 "com/example/ratabl/ratabl/engine/Lock" "lockDate" "Ljava/util/Optional;" .null := D1 (Or.inr (hq hw 101 rfl)) (ty := (.object "java/util/Optional")) (by decide)
 obtain ⟨cq9, kq9, q9a, q9b, q9c⟩ := isOf hZ e1 fa2
 obtain ⟨_, _, ⟨T9, L9, k9, n9⟩, -, X9, ⟨Lc9, hQ9, l9, y9, z9⟩, st9⟩ := X1.virtualBack hx (y := (⟨"com/example/ratabl/ratabl/model/Settings", "lockDateMethod", "()Lcom/example/ratabl/ratabl/model/LockDateMethod;"⟩ : MethodName)) (z := (⟨"com/example/ratabl/ratabl/model/Settings", "lockDateMethod", "()Lcom/example/ratabl/ratabl/model/LockDateMethod;"⟩ : MethodName)) hown (mvT hZ (hq hw 84 rfl)) (mvT hZ (hq hw 85 rfl)) (notFace_of_selects (args := #[]) (mvT hZ (hq hw 87 rfl))) (mvT hZ (hq hw 87 rfl)) (mvT hZ (hq hw 86 rfl)) (by decide) (backOf (W := 2) (rm11 l Z a0 hw [] r0 xm h1 n0 z5 fa3 ) hZ (hq hw 88 rfl) (hq hw 12 rfl) (by decide) (by decide)) q9a q9c (g := (mkF m 5 #[rv r0] [(.ref r0), (.ref b1), (.ref b1)])) rfl (by rw [hml]; rfl) (Steps.refl _) (argsL := []) (rest := [(.ref b1), (.ref b1)]) (lenOf pd_15 rfl) rfl (by show 2 * 0 + _ ≤ _; exact Nat.le_of_eq rfl) (hb hby d10_5) (fun _ _ => ⟨rfl, e1, (by decide : 1 + 0 ≤ _), (by decide : 2 + 0 ≤ _)⟩)
 dsimp only [Pt.U, Pt.locs, Pt.cells, Pt.slots] at X9 l9 y9 z9 st9 hQ9
 subst l9 y9 z9
 obtain ⟨rfl, N9q, eh9⟩ := hQ9
 have N9 := Fr.app N0 N9q
 obtain ⟨cq10, kq10, q10a, q10b, q10c⟩ := isOf hZ eh9 fa2
 obtain ⟨_, _, ⟨T10, L10, k10, n10⟩, -, X10, ⟨Lc10, hQ10, l10, y10, z10⟩, st10⟩ := X9.virtualBack hx (y := (⟨"com/example/ratabl/ratabl/model/Settings", "customLockDate", "()Ljava/util/Optional;"⟩ : MethodName)) (z := (⟨"com/example/ratabl/ratabl/model/Settings", "customLockDate", "()Ljava/util/Optional;"⟩ : MethodName)) hown (mvT hZ (hq hw 89 rfl)) (mvT hZ (hq hw 90 rfl)) (notFace_of_selects (args := #[]) (mvT hZ (hq hw 92 rfl))) (mvT hZ (hq hw 92 rfl)) (mvT hZ (hq hw 91 rfl)) (by decide) (backOf (W := 3) (rm12 l Z a0 hw [] r0 xo h1 n0 z5 fa4 ) hZ (hq hw 93 rfl) (hq hw 12 rfl) (by decide) (by decide)) q10a q10c (g := (mkF m 9 #[rv r0] [(.ref r0), (.ref xm), (.ref b1), (.ref b1)])) rfl (by rw [hml]; rfl) (Steps.refl _) (argsL := []) (rest := [(.ref xm), (.ref b1), (.ref b1)]) (lenOf pd_14 rfl) rfl (by show 2 * 0 + _ ≤ _; exact Nat.le_of_eq rfl) (hb hby d10_9) (fun _ _ => ⟨rfl, eh9, (by decide : 1 + 0 ≤ _), (by decide : 2 + 0 ≤ _)⟩)
 dsimp only [Pt.U, Pt.locs, Pt.cells, Pt.slots] at X10 l10 y10 z10 st10 hQ10
 subst l10 y10 z10
 obtain ⟨rfl, N10q, eh10⟩ := hQ10
 have N10 := Fr.app N9 N10q
 obtain ⟨_, _, ⟨T11, L11, k11, n11⟩, -, X11, ⟨Lc11, hQ11, l11, y11, z11⟩, st11⟩ := X10.specialBack hx (y := (⟨"com/example/ratabl/ratabl/engine/Lock", "<init>", "(Lcom/example/ratabl/ratabl/model/LockDateMethod;Ljava/util/Optional;)V"⟩ : MethodName)) rfl hown (mvT hZ (hq hw 94 rfl)) (mvT hZ (hq hw 95 rfl)) (mvT hZ (hq hw 96 rfl)) (by decide) (backOf (W := 1) (rm13 l Z a0 hw [] b1 xm xo  h1 n0 z5 A1 fa7 fa8 g_b1) hZ (hq hw 96 rfl) (hq hw 80 rfl) (by decide) (by decide)) (g := (mkF m 12 #[rv r0] [(.ref xo), (.ref xm), (.ref b1), (.ref b1)])) rfl (by rw [hml]; rfl) (Steps.refl _) (a := b1) (argsL := [(.ref xm), (.ref xo)]) (rest := [(.ref b1)]) (lenOf pd_16 rfl) rfl (by show 2 * 0 + _ ≤ _; exact Nat.le_of_eq rfl) (hb hby d10_12) (fun _ _ => ⟨rfl, eh10, (by decide : 1 + 0 ≤ _), (by decide : 2 + 0 ≤ _)⟩)
 dsimp only [Pt.U, Pt.locs, Pt.cells, Pt.slots] at X11 l11 y11 z11 st11 hQ11
 subst l11 y11 z11
 obtain ⟨rfl, N11q, K11, A11, F11_0, F11_1⟩ := hQ11
 have N11 := Fr.app N10 N11q
 have fa12 := fa2.keep K11
 have fa13 := fa3.keep K11 (ninS ne_r0_b1 nin0)
 have fa14 := fa4.keep K11 (ninS ne_r0_b1 nin0)
 have fa15 := A1.keep K11
 have z16 : n0 ≤ T11.heap.size := Nat.le_trans z5 K11.1
 have kp17 : Keep h0 T11.heap [] := kp6.trans K11 (allS (Or.inr sz_b1) all0)
 obtain ⟨fs, hr, hrun, hended, hW, hsame⟩ := X11.leave (v := some (.ref b1)) (fun h => by rw [Bd.returns] at h; cases h)
 refine ⟨_, _, G0 _ ?_, hrun, hended, _, _, rfl, ?_, ⟨_, rfl⟩, hW, hsame.mono (by decide) (by decide)⟩
 ·skip
  refine st1 _ ?_
  refine XS.dup X1.here hx rfl (hb hby d10_3) rfl rfl ?_
  refine XS.aloadN X1.here hx rfl (hb hby d10_4) rfl rfl ?_
  refine st9.trans ?_
  refine XS.aloadN X9.here hx rfl (hb hby d10_8) rfl rfl ?_
  refine st10.trans ?_
  refine st11.trans ?_
  exact retOut X11 hx Bd.returns rfl (Or.inr (Or.inr (Or.inr (Or.inr ⟨rfl, rfl, rfl⟩)))) (hb hby d10_15) hr
 ·show Q10 Z r0 xm xo h0 n0 _ T11.heap _
  exact ⟨b1, rfl, N11, kp17, fa15, F11_0, F11_1⟩
theorem d23_0 : decode prog_38_method_6_code 0 = .ok (.getstatic 107, 3) := by decide +kernel
theorem d23_3 : decode prog_38_method_6_code 3 = .ok (.aload_n 0, 1) := by decide +kernel
theorem d23_4 : decode prog_38_method_6_code 4 = .ok (.getfield 7, 3) := by decide +kernel
theorem d23_7 : decode prog_38_method_6_code 7 = .ok (.invokevirtual 113, 3) := by decide +kernel
theorem d23_10 : decode prog_38_method_6_code 10 = .ok (.iaload, 1) := by decide +kernel
theorem d23_11 : decode prog_38_method_6_code 11 = .ok (.tableswitch 25 1 3 #[35, 55, 62], 25) := by decide +kernel
theorem d23_73 : decode prog_38_method_6_code 73 = .ok (.invokestatic 130, 3) := by decide +kernel
theorem d23_76 : decode prog_38_method_6_code 76 = .ok (.areturn, 1) := by decide +kernel
def QFO0 (Z : State) (r0 : Addr) (r1 : Addr) (eN eA eC ps crr ads sw oe efd rfd eyr ryr bt bf ic : Addr) (ksw : ClassId) (h0 : Heap) (n0 : Nat) (v : Option Value) (h : Heap) (L : List Loc) : Prop := v = some (.ref oe) ∧ Fr n0 L ∧ h = h0
theorem ef_rmFO0 (m : MethodId) (x0 : Addr) (x1 : Addr) : entryFrame m #[(.ref x0), (.ref x1)] 2 = mkF m 0 #[.val (.ref x0), .val (.ref x1)] [] := by first | (simp [entryFrame, mkF, argsToLocals, Value.category]; done) | rfl
set_option maxRecDepth 65536 in
set_option maxHeartbeats 40000000 in
theorem rmFO0 (l : Launch) (Z : State) (a0 : Array Value) (hw : ∀ d ∈ tables_1, d.before a0 Z = true) (ws : List Jvm.Cond) (r0 : Addr) (r1 : Addr) (eN eA eC ps crr ads sw oe efd rfd eyr ryr bt bf ic : Addr) (ksw : ClassId) (h0 : Heap) (n0 : Nat) (Z0 : n0 ≤ h0.size) (O0 : Old Z n0 h0) (El : Exa Z h0 r0 "com/example/ratabl/ratabl/engine/Lock") (Fm_ : Fld Z h0 r0 "com/example/ratabl/ratabl/engine/Lock" "method" "Lcom/example/ratabl/ratabl/model/LockDateMethod;" (.ref eN)) (SS : Stw Z eN eA eC ps crr ads sw oe efd rfd eyr ryr bt bf ic ksw) :
  MetFree l (⟨"com/example/ratabl/ratabl/engine/Lock", "firstOpen", "(Ljava/time/LocalDate;)Ljava/util/Optional;"⟩ : MethodName) (head1 (Jvm.Cond.code (⟨"com/example/ratabl/ratabl/engine/Lock", "firstOpen", "(Ljava/time/LocalDate;)Ljava/util/Optional;"⟩ : MethodName) prog_38_method_6_code 2 (some (.object "java/util/Optional")) :: ws) ({ frames := 1, cells := 0, slots := 0, locals := 13 } : Room)) (fun a U => a = #[(.ref r0), (.ref r1)] ∧ Z.Warmed39 U.vm ∧ U.heap = h0) (fun _ _ _ _ _ => True) (fun _ U o U' => ∃ v L, o = .returned v ∧ QFO0 Z r0 r1 eN eA eC ps crr ads sw oe efd rfd eyr ryr bt bf ic ksw h0 n0 v U'.heap L ∧ FrameEnd U o U' L ({ frames := 1, cells := 0, slots := 0, locals := 13 } : Room).cells ({ frames := 1, cells := 0, slots := 0, locals := 13 } : Room).slots) := by
 refine MetFree.of_bodySF (plainFor_of_name pnc_com_example_ratabl_ratabl_engine_Lock) hisR ?_
 intro p e s m args below meth c s₁ Bd hml0 hP hK
 obtain ⟨rfl, hZ, hh⟩ := hP
 have hx := Bd.exec
 have hby := Bd.bytes
 have hml : c.maxLocals = 2 := hml0
 have hown : s.vm.findClass "com/example/ratabl/ratabl/engine/Lock" = some m.cls := findClass_of_methodNamed Bd.named
 have hnm := (name_of_methodNamed Bd.named Bd.method).1
 have X0 : Stand p l e ({ frames := 1, cells := 0, slots := 0, locals := 13 } : Room) s m #[(.ref r0), (.ref r1)] below meth c s₁ [] 0 0 := Stand.of_body Bd
 have e0 : s₁.heap = h0 := by rw [← hh, Bd.state]; rfl
 have N0 := Fr.nil n0
 have kp0 : Keep h0 h0 [] := Keep.refl _ _
 have G0 : ∀ t, Steps p.tables e below (s₁.setTop (mkF m 0 #[rv r0, rv r1] [])) t → Steps p.tables e below (s₁.setTop (entryFrame m #[(.ref r0), (.ref r1)] 2)) t := fun t k => castTop (ef_rmFO0 m r0 r1) k
 obtain ⟨T1, X1, e1, st1⟩ := getS2 X0 hx hZ hown (host := "") (Or.inl (hq hw 175 rfl)) Via.refl e0 (SS.2.2.2.2.2.2.1.ext O0.2) (g := (mkF m 0 #[rv r0, rv r1] [])) rfl (hb hby d23_0)
 obtain ⟨T2, X2, e2, st2⟩ := getF X1 hx hZ hown (host := "") (Or.inl (hq hw 98 rfl)) Via.refl e1 Fm_ (g := (mkF m 4 #[rv r0, rv r1] [(.ref r0), (.ref sw)])) rfl rfl (hb hby d23_4)
 obtain ⟨cq3, kq3, q3a, q3b, q3c⟩ := isOf hZ e2 (SS.2.2.2.2.2.2.2.2.2.2.2.2.2.1.ext O0.2)
 obtain ⟨_, _, ⟨T3, L3, k3, n3⟩, -, X3, ⟨Lc3, hQ3, l3, y3, z3⟩, st3⟩ := X2.virtualBackUp hx (C := "com/example/ratabl/ratabl/model/LockDateMethod") (owner := "java/lang/Enum") (x := (⟨"com/example/ratabl/ratabl/model/LockDateMethod", "ordinal", "()I"⟩ : MethodName)) (y := (⟨"java/lang/Enum", "ordinal", "()I"⟩ : MethodName)) hown (mvT hZ (hq hw 178 rfl)) (mvT hZ (hq hw 179 rfl)) (mvT hZ (hq hw 180 rfl)) (by decide) (mvT hZ (hq hw 182 rfl)) (mvT hZ (hq hw 181 rfl)) (backOf (W := 1) (rm24 l Z a0 hw [] eN (0 : Int32) h0 n0 Z0 (SS.2.2.2.2.2.2.2.2.2.2.2.2.2.2.2.2.1.ext O0.2) ) hZ (hq hw 184 rfl) (hq hw 183 rfl) (by decide) (by decide)) q3a q3c (g := (mkF m 7 #[rv r0, rv r1] [(.ref eN), (.ref sw)])) rfl (by rw [hml]; rfl) (Steps.refl _) (argsL := []) (rest := [(.ref sw)]) (lenOf pd_8 rfl) rfl (by show 2 * 0 + _ ≤ _; exact Nat.le_of_eq rfl) (hb hby d23_7) (fun _ _ => ⟨rfl, e2, (by decide : 0 + 0 ≤ _), (by decide : 0 + 0 ≤ _)⟩)
 dsimp only [Pt.U, Pt.locs, Pt.cells, Pt.slots] at X3 l3 y3 z3 st3 hQ3
 subst l3 y3 z3
 obtain ⟨rfl, N3q, eh3⟩ := hQ3
 have N3 := Fr.app N0 N3q
 obtain ⟨cl4, Ar4, q4, S4, M4, H4, G4⟩ := id (SS.2.2.2.2.2.2.2.2.2.2.2.2.2.2.2.2.2.2.2.1.ext O0.2)
 have hin4 : ¬ ((0 : Int32) < 0 ∨ cl4.slots.size ≤ ((0 : Int32)).toNatClampNeg) := inb_of S4 ⟨by decide, by decide⟩
 have hat4 : cl4.slots[((0 : Int32)).toNatClampNeg]? = some (.int (3 : Int32)) := H4.at hin4 rfl
 obtain ⟨_, _, ⟨T5, L5, k5, n5⟩, -, X5, ⟨Lc5, hQ5, l5, y5, z5⟩, st5⟩ := Jvm.LawKit.callS X3 hx (y := (⟨"java/util/Optional", "empty", "()Ljava/util/Optional;"⟩ : MethodName)) hown (mvT hZ (hq hw 187 rfl)) (mvT hZ (hq hw 6 rfl)) (mvT hZ (hq hw 7 rfl)) (mvT hZ (hq hw 8 rfl)) (by decide) (backOf (W := 0) (rm1 l Z a0 hw []  eN eA eC ps crr ads sw oe efd rfd eyr ryr bt bf ic ksw  h0 n0 Z0 O0  SS ) hZ (hq hw 8 rfl) (hq hw 7 rfl) (by decide) (by decide)) (g := (mkF m 73 #[rv r0, rv r1] [])) rfl (by rw [hml]; rfl) (argsL := []) (rest := []) (lenOf pd_14 rfl) rfl (by show 2 * 0 + _ ≤ _; exact Nat.le_of_eq rfl) (hb hby d23_73) (fun _ _ => ⟨rfl, eh3, (by decide : 0 + 0 ≤ _), (by decide : 0 + 0 ≤ _)⟩)
 dsimp only [Pt.U, Pt.locs, Pt.cells, Pt.slots] at X5 l5 y5 z5 st5 hQ5
 subst l5 y5 z5
 obtain ⟨rfl, N5q, eh5⟩ := hQ5
 have N5 := Fr.app N3 N5q
 obtain ⟨fs, hr, hrun, hended, hW, hsame⟩ := X5.leave (v := some (.ref oe)) (fun h => by rw [Bd.returns] at h; cases h)
 refine ⟨_, _, G0 _ ?_, hrun, hended, _, _, rfl, ?_, ⟨_, rfl⟩, hW, hsame.mono (by decide) (by decide)⟩
 ·skip
  refine st1 _ ?_
  refine XS.aloadN X1.here hx rfl (hb hby d23_3) rfl rfl ?_
  refine st2 _ ?_
  refine st3.trans ?_
  refine X3.iaload hx (j := (0 : Int32)) (v := (.int (3 : Int32))) (by rw [eh3]; exact Ar4.1) (State.isArrayOf_alike hZ.alike Ar4.2.1) Ar4.2.2 hin4 hat4 (g := (mkF m 10 #[rv r0, rv r1] [(.int (0 : Int32)), (.ref sw)])) rfl rfl (hb hby d23_10) _ ?_
  refine XS.tswIn X3.here hx rfl (pc0 := 11) (pc' := 73) rfl (hb hby d23_11) rfl (by decide) (o := 62) (by decide) (by decide) (by decide) ?_
  refine st5 _ ?_
  exact retOut X5 hx Bd.returns rfl (Or.inr (Or.inr (Or.inr (Or.inr ⟨rfl, rfl, rfl⟩)))) (hb hby d23_76) hr
 ·show QFO0 Z r0 r1 eN eA eC ps crr ads sw oe efd rfd eyr ryr bt bf ic ksw h0 n0 _ T5.heap _
  rw [eh5]
  exact ⟨rfl, N5, rfl⟩
theorem d23_66 : decode prog_38_method_6_code 66 = .ok (.aload_n 1, 1) := by decide +kernel
theorem d23_67 : decode prog_38_method_6_code 67 = .ok (.invokestatic 126, 3) := by decide +kernel
theorem pd_17 : parseMethodDescriptor "(Ljava/lang/Object;)Ljava/util/Optional;" = some ⟨[(.object "java/lang/Object")], some (.object "java/util/Optional")⟩ := by decide +kernel
theorem d23_70 : decode prog_38_method_6_code 70 = .ok (.goto 6, 3) := by decide +kernel
def QFO1 (Z : State) (r0 : Addr) (r1 : Addr) (eN eA eC ps crr ads sw oe efd rfd eyr ryr bt bf ic : Addr) (ksw : ClassId) (h0 : Heap) (n0 : Nat) (v : Option Value) (h : Heap) (L : List Loc) : Prop := ∃ b : Addr, v = some (.ref b) ∧ Fr n0 L ∧ Keep h0 h [] ∧ Exa Z h b "java/util/Optional" ∧ Fld Z h b "java/util/Optional" "value" "Ljava/lang/Object;" (.ref r1)
theorem ef_rmFO1 (m : MethodId) (x0 : Addr) (x1 : Addr) : entryFrame m #[(.ref x0), (.ref x1)] 2 = mkF m 0 #[.val (.ref x0), .val (.ref x1)] [] := by first | (simp [entryFrame, mkF, argsToLocals, Value.category]; done) | rfl
set_option maxRecDepth 65536 in
set_option maxHeartbeats 40000000 in
theorem rmFO1 (l : Launch) (Z : State) (a0 : Array Value) (hw : ∀ d ∈ tables_1, d.before a0 Z = true) (ws : List Jvm.Cond) (r0 : Addr) (r1 : Addr) (eN eA eC ps crr ads sw oe efd rfd eyr ryr bt bf ic : Addr) (ksw : ClassId) (h0 : Heap) (n0 : Nat) (Z0 : n0 ≤ h0.size) (O0 : Old Z n0 h0) (El : Exa Z h0 r0 "com/example/ratabl/ratabl/engine/Lock") (Fm_ : Fld Z h0 r0 "com/example/ratabl/ratabl/engine/Lock" "method" "Lcom/example/ratabl/ratabl/model/LockDateMethod;" (.ref eA)) (SS : Stw Z eN eA eC ps crr ads sw oe efd rfd eyr ryr bt bf ic ksw) :
  MetFree l (⟨"com/example/ratabl/ratabl/engine/Lock", "firstOpen", "(Ljava/time/LocalDate;)Ljava/util/Optional;"⟩ : MethodName) (head1 (Jvm.Cond.code (⟨"com/example/ratabl/ratabl/engine/Lock", "firstOpen", "(Ljava/time/LocalDate;)Ljava/util/Optional;"⟩ : MethodName) prog_38_method_6_code 2 (some (.object "java/util/Optional")) :: ws) ({ frames := 3, cells := 1, slots := 1, locals := 38 } : Room)) (fun a U => a = #[(.ref r0), (.ref r1)] ∧ Z.Warmed39 U.vm ∧ U.heap = h0) (fun _ _ _ _ _ => True) (fun _ U o U' => ∃ v L, o = .returned v ∧ QFO1 Z r0 r1 eN eA eC ps crr ads sw oe efd rfd eyr ryr bt bf ic ksw h0 n0 v U'.heap L ∧ FrameEnd U o U' L ({ frames := 3, cells := 1, slots := 1, locals := 38 } : Room).cells ({ frames := 3, cells := 1, slots := 1, locals := 38 } : Room).slots) := by
 refine MetFree.of_bodySF (plainFor_of_name pnc_com_example_ratabl_ratabl_engine_Lock) hisR ?_
 intro p e s m args below meth c s₁ Bd hml0 hP hK
 obtain ⟨rfl, hZ, hh⟩ := hP
 have hx := Bd.exec
 have hby := Bd.bytes
 have hml : c.maxLocals = 2 := hml0
 have hown : s.vm.findClass "com/example/ratabl/ratabl/engine/Lock" = some m.cls := findClass_of_methodNamed Bd.named
 have hnm := (name_of_methodNamed Bd.named Bd.method).1
 have X0 : Stand p l e ({ frames := 3, cells := 1, slots := 1, locals := 38 } : Room) s m #[(.ref r0), (.ref r1)] below meth c s₁ [] 0 0 := Stand.of_body Bd
 have e0 : s₁.heap = h0 := by rw [← hh, Bd.state]; rfl
 have N0 := Fr.nil n0
 have kp0 : Keep h0 h0 [] := Keep.refl _ _
 have G0 : ∀ t, Steps p.tables e below (s₁.setTop (mkF m 0 #[rv r0, rv r1] [])) t → Steps p.tables e below (s₁.setTop (entryFrame m #[(.ref r0), (.ref r1)] 2)) t := fun t k => castTop (ef_rmFO1 m r0 r1) k
 obtain ⟨T1, X1, e1, st1⟩ := getS2 X0 hx hZ hown (host := "") (Or.inl (hq hw 175 rfl)) Via.refl e0 (SS.2.2.2.2.2.2.1.ext O0.2) (g := (mkF m 0 #[rv r0, rv r1] [])) rfl (hb hby d23_0)
 obtain ⟨T2, X2, e2, st2⟩ := getF X1 hx hZ hown (host := "") (Or.inl (hq hw 98 rfl)) Via.refl e1 Fm_ (g := (mkF m 4 #[rv r0, rv r1] [(.ref r0), (.ref sw)])) rfl rfl (hb hby d23_4)
 obtain ⟨cq3, kq3, q3a, q3b, q3c⟩ := isOf hZ e2 (SS.2.2.2.2.2.2.2.2.2.2.2.2.2.2.1.ext O0.2)
 obtain ⟨_, _, ⟨T3, L3, k3, n3⟩, -, X3, ⟨Lc3, hQ3, l3, y3, z3⟩, st3⟩ := X2.virtualBackUp hx (C := "com/example/ratabl/ratabl/model/LockDateMethod") (owner := "java/lang/Enum") (x := (⟨"com/example/ratabl/ratabl/model/LockDateMethod", "ordinal", "()I"⟩ : MethodName)) (y := (⟨"java/lang/Enum", "ordinal", "()I"⟩ : MethodName)) hown (mvT hZ (hq hw 178 rfl)) (mvT hZ (hq hw 179 rfl)) (mvT hZ (hq hw 180 rfl)) (by decide) (mvT hZ (hq hw 182 rfl)) (mvT hZ (hq hw 181 rfl)) (backOf (W := 1) (rm24 l Z a0 hw [] eA (1 : Int32) h0 n0 Z0 (SS.2.2.2.2.2.2.2.2.2.2.2.2.2.2.2.2.2.1.ext O0.2) ) hZ (hq hw 184 rfl) (hq hw 183 rfl) (by decide) (by decide)) q3a q3c (g := (mkF m 7 #[rv r0, rv r1] [(.ref eA), (.ref sw)])) rfl (by rw [hml]; rfl) (Steps.refl _) (argsL := []) (rest := [(.ref sw)]) (lenOf pd_8 rfl) rfl (by show 2 * 0 + _ ≤ _; exact Nat.le_of_eq rfl) (hb hby d23_7) (fun _ _ => ⟨rfl, e2, (by decide : 0 + 0 ≤ _), (by decide : 0 + 0 ≤ _)⟩)
 dsimp only [Pt.U, Pt.locs, Pt.cells, Pt.slots] at X3 l3 y3 z3 st3 hQ3
 subst l3 y3 z3
 obtain ⟨rfl, N3q, eh3⟩ := hQ3
 have N3 := Fr.app N0 N3q
 obtain ⟨cl4, Ar4, q4, S4, M4, H4, G4⟩ := id (SS.2.2.2.2.2.2.2.2.2.2.2.2.2.2.2.2.2.2.2.1.ext O0.2)
 have hin4 : ¬ ((1 : Int32) < 0 ∨ cl4.slots.size ≤ ((1 : Int32)).toNatClampNeg) := inb_of S4 ⟨by decide, by decide⟩
 have hat4 : cl4.slots[((1 : Int32)).toNatClampNeg]? = some (.int (2 : Int32)) := H4.at hin4 rfl
 obtain ⟨_, _, ⟨T5, L5, k5, n5⟩, -, X5, ⟨Lc5, hQ5, l5, y5, z5⟩, st5⟩ := Jvm.LawKit.callS X3 hx (y := (⟨"java/util/Optional", "of", "(Ljava/lang/Object;)Ljava/util/Optional;"⟩ : MethodName)) hown (mvT hZ (hq hw 247 rfl)) (mvT hZ (hq hw 248 rfl)) (mvT hZ (hq hw 7 rfl)) (mvT hZ (hq hw 249 rfl)) (by decide) (backOf (W := 0) (rm33 l Z a0 hw [] r1  h0 n0 Z0  ) hZ (hq hw 249 rfl) (hq hw 7 rfl) (by decide) (by decide)) (g := (mkF m 67 #[rv r0, rv r1] [(.ref r1)])) rfl (by rw [hml]; rfl) (argsL := [(.ref r1)]) (rest := []) (lenOf pd_17 rfl) rfl (by show 2 * 0 + _ ≤ _; exact Nat.le_of_eq rfl) (hb hby d23_67) (fun _ _ => ⟨rfl, eh3, (by decide : 0 + 1 ≤ _), (by decide : 0 + 1 ≤ _)⟩)
 dsimp only [Pt.U, Pt.locs, Pt.cells, Pt.slots] at X5 l5 y5 z5 st5 hQ5
 subst l5 y5 z5
 obtain ⟨bo5, rfl, N5q, K5, A5, Gv5⟩ := hQ5
 have N5 := Fr.app N3 N5q
 have fa6 := O0.keep K5 all0
 have fa7 := El.keep K5
 have fa8 := Fm_.keep K5 nin0
 have z9 : n0 ≤ T5.heap.size := Nat.le_trans Z0 K5.1
 have kp10 : Keep h0 T5.heap [] := kp0.trans K5 all0
 obtain ⟨fs, hr, hrun, hended, hW, hsame⟩ := X5.leave (v := some (.ref bo5)) (fun h => by rw [Bd.returns] at h; cases h)
 refine ⟨_, _, G0 _ ?_, hrun, hended, _, _, rfl, ?_, ⟨_, rfl⟩, hW, hsame.mono (by decide) (by decide)⟩
 ·skip
  refine st1 _ ?_
  refine XS.aloadN X1.here hx rfl (hb hby d23_3) rfl rfl ?_
  refine st2 _ ?_
  refine st3.trans ?_
  refine X3.iaload hx (j := (1 : Int32)) (v := (.int (2 : Int32))) (by rw [eh3]; exact Ar4.1) (State.isArrayOf_alike hZ.alike Ar4.2.1) Ar4.2.2 hin4 hat4 (g := (mkF m 10 #[rv r0, rv r1] [(.int (1 : Int32)), (.ref sw)])) rfl rfl (hb hby d23_10) _ ?_
  refine XS.tswIn X3.here hx rfl (pc0 := 11) (pc' := 66) rfl (hb hby d23_11) rfl (by decide) (o := 55) (by decide) (by decide) (by decide) ?_
  refine XS.aloadN X3.here hx rfl (hb hby d23_66) rfl rfl ?_
  refine st5 _ ?_
  refine XS.goto X5.here hx rfl (pc0 := 70) (pc' := 76) rfl (hb hby d23_70) (by decide) (by decide) ?_
  exact retOut X5 hx Bd.returns rfl (Or.inr (Or.inr (Or.inr (Or.inr ⟨rfl, rfl, rfl⟩)))) (hb hby d23_76) hr
 ·show QFO1 Z r0 r1 eN eA eC ps crr ads sw oe efd rfd eyr ryr bt bf ic ksw h0 n0 _ T5.heap _
  exact ⟨bo5, rfl, N5, kp10, A5, Gv5⟩
theorem d23_46 : decode prog_38_method_6_code 46 = .ok (.aload_n 0, 1) := by decide +kernel
theorem d23_47 : decode prog_38_method_6_code 47 = .ok (.getfield 13, 3) := by decide +kernel
theorem d23_50 : decode prog_38_method_6_code 50 = .ok (.invokevirtual 51, 3) := by decide +kernel
theorem pd_18 : parseMethodDescriptor "()Ljava/lang/Object;" = some ⟨[], some (.object "java/lang/Object")⟩ := by decide +kernel
theorem d23_53 : decode prog_38_method_6_code 53 = .ok (.checkcast 44, 3) := by decide +kernel
theorem d23_56 : decode prog_38_method_6_code 56 = .ok (.lconst 1, 1) := by decide +kernel
theorem d23_57 : decode prog_38_method_6_code 57 = .ok (.invokevirtual 122, 3) := by decide +kernel
theorem pd_19 : parseMethodDescriptor "(J)Ljava/time/LocalDate;" = some ⟨[.long], some (.object "java/time/LocalDate")⟩ := by decide +kernel
theorem d23_60 : decode prog_38_method_6_code 60 = .ok (.invokestatic 126, 3) := by decide +kernel
theorem d23_63 : decode prog_38_method_6_code 63 = .ok (.goto 13, 3) := by decide +kernel
def QFO2 (Z : State) (r0 : Addr) (r1 : Addr) (eN eA eC ps crr ads sw oe efd rfd eyr ryr bt bf ic : Addr) (ksw : ClassId) (xo xl : Addr) (yC mC dC : Int32) (zC : Int) (h0 : Heap) (n0 : Nat) (v : Option Value) (h : Heap) (L : List Loc) : Prop := ∃ (b nd : Addr) (y m d : Int32), v = some (.ref b) ∧ Fr n0 L ∧ Keep h0 h [] ∧ Exa Z h b "java/util/Optional" ∧ Fld Z h b "java/util/Optional" "value" "Ljava/lang/Object;" (.ref nd) ∧ Exa Z h nd "java/time/LocalDate" ∧ Fld Z h nd "java/time/LocalDate" "year" "I" (.int y) ∧ Fld Z h nd "java/time/LocalDate" "month" "S" (.int m) ∧ Fld Z h nd "java/time/LocalDate" "day" "S" (.int d) ∧ own_dt y m d (zC + 1)
theorem ef_rmFO2 (m : MethodId) (x0 : Addr) (x1 : Addr) : entryFrame m #[(.ref x0), (.ref x1)] 2 = mkF m 0 #[.val (.ref x0), .val (.ref x1)] [] := by first | (simp [entryFrame, mkF, argsToLocals, Value.category]; done) | rfl
set_option maxRecDepth 65536 in
set_option maxHeartbeats 40000000 in
theorem rmFO2 (l : Launch) (Z : State) (a0 : Array Value) (hw : ∀ d ∈ tables_1, d.before a0 Z = true) (ws : List Jvm.Cond) (r0 : Addr) (r1 : Addr) (eN eA eC ps crr ads sw oe efd rfd eyr ryr bt bf ic : Addr) (ksw : ClassId) (xo xl : Addr) (yC mC dC : Int32) (zC : Int) (h0 : Heap) (n0 : Nat) (Z0 : n0 ≤ h0.size) (O0 : Old Z n0 h0) (El : Exa Z h0 r0 "com/example/ratabl/ratabl/engine/Lock") (Fm_ : Fld Z h0 r0 "com/example/ratabl/ratabl/engine/Lock" "method" "Lcom/example/ratabl/ratabl/model/LockDateMethod;" (.ref eC)) (Fo_ : Fld Z h0 r0 "com/example/ratabl/ratabl/engine/Lock" "lockDate" "Ljava/util/Optional;" (.ref xo)) (Eo : Exa Z h0 xo "java/util/Optional") (Fv_ : Fld Z h0 xo "java/util/Optional" "value" "Ljava/lang/Object;" (.ref xl)) (ExC : Exa Z h0 xl "java/time/LocalDate") (FyC : Fld Z h0 xl "java/time/LocalDate" "year" "I" (.int yC)) (FmC : Fld Z h0 xl "java/time/LocalDate" "month" "S" (.int mC)) (FdC : Fld Z h0 xl "java/time/LocalDate" "day" "S" (.int dC)) (SS : Stw Z eN eA eC ps crr ads sw oe efd rfd eyr ryr bt bf ic ksw) (DC : own_dt yC mC dC zC) (hz1 : zC + 1 ≤ 9000000000) :
  MetFree l (⟨"com/example/ratabl/ratabl/engine/Lock", "firstOpen", "(Ljava/time/LocalDate;)Ljava/util/Optional;"⟩ : MethodName) (head1 (Jvm.Cond.code (⟨"com/example/ratabl/ratabl/engine/Lock", "firstOpen", "(Ljava/time/LocalDate;)Ljava/util/Optional;"⟩ : MethodName) prog_38_method_6_code 2 (some (.object "java/util/Optional")) :: ws) ({ frames := 5, cells := 2, slots := 4, locals := 75 } : Room)) (fun a U => a = #[(.ref r0), (.ref r1)] ∧ Z.Warmed39 U.vm ∧ U.heap = h0) (fun _ _ _ _ _ => True) (fun _ U o U' => ∃ v L, o = .returned v ∧ QFO2 Z r0 r1 eN eA eC ps crr ads sw oe efd rfd eyr ryr bt bf ic ksw xo xl yC mC dC zC h0 n0 v U'.heap L ∧ FrameEnd U o U' L ({ frames := 5, cells := 2, slots := 4, locals := 75 } : Room).cells ({ frames := 5, cells := 2, slots := 4, locals := 75 } : Room).slots) := by
 refine MetFree.of_bodySF (plainFor_of_name pnc_com_example_ratabl_ratabl_engine_Lock) hisR ?_
 intro p e s m args below meth c s₁ Bd hml0 hP hK
 obtain ⟨rfl, hZ, hh⟩ := hP
 have hx := Bd.exec
 have hby := Bd.bytes
 have hml : c.maxLocals = 2 := hml0
 have hown : s.vm.findClass "com/example/ratabl/ratabl/engine/Lock" = some m.cls := findClass_of_methodNamed Bd.named
 have hnm := (name_of_methodNamed Bd.named Bd.method).1
 have X0 : Stand p l e ({ frames := 5, cells := 2, slots := 4, locals := 75 } : Room) s m #[(.ref r0), (.ref r1)] below meth c s₁ [] 0 0 := Stand.of_body Bd
 have e0 : s₁.heap = h0 := by rw [← hh, Bd.state]; rfl
 have N0 := Fr.nil n0
 have kp0 : Keep h0 h0 [] := Keep.refl _ _
 have G0 : ∀ t, Steps p.tables e below (s₁.setTop (mkF m 0 #[rv r0, rv r1] [])) t → Steps p.tables e below (s₁.setTop (entryFrame m #[(.ref r0), (.ref r1)] 2)) t := fun t k => castTop (ef_rmFO2 m r0 r1) k
 obtain ⟨T1, X1, e1, st1⟩ := getS2 X0 hx hZ hown (host := "") (Or.inl (hq hw 175 rfl)) Via.refl e0 (SS.2.2.2.2.2.2.1.ext O0.2) (g := (mkF m 0 #[rv r0, rv r1] [])) rfl (hb hby d23_0)
 obtain ⟨T2, X2, e2, st2⟩ := getF X1 hx hZ hown (host := "") (Or.inl (hq hw 98 rfl)) Via.refl e1 Fm_ (g := (mkF m 4 #[rv r0, rv r1] [(.ref r0), (.ref sw)])) rfl rfl (hb hby d23_4)
 obtain ⟨cq3, kq3, q3a, q3b, q3c⟩ := isOf hZ e2 (SS.2.2.2.2.2.2.2.2.2.2.2.2.2.2.2.1.ext O0.2)
 obtain ⟨_, _, ⟨T3, L3, k3, n3⟩, -, X3, ⟨Lc3, hQ3, l3, y3, z3⟩, st3⟩ := X2.virtualBackUp hx (C := "com/example/ratabl/ratabl/model/LockDateMethod") (owner := "java/lang/Enum") (x := (⟨"com/example/ratabl/ratabl/model/LockDateMethod", "ordinal", "()I"⟩ : MethodName)) (y := (⟨"java/lang/Enum", "ordinal", "()I"⟩ : MethodName)) hown (mvT hZ (hq hw 178 rfl)) (mvT hZ (hq hw 179 rfl)) (mvT hZ (hq hw 180 rfl)) (by decide) (mvT hZ (hq hw 182 rfl)) (mvT hZ (hq hw 181 rfl)) (backOf (W := 1) (rm24 l Z a0 hw [] eC (2 : Int32) h0 n0 Z0 (SS.2.2.2.2.2.2.2.2.2.2.2.2.2.2.2.2.2.2.1.ext O0.2) ) hZ (hq hw 184 rfl) (hq hw 183 rfl) (by decide) (by decide)) q3a q3c (g := (mkF m 7 #[rv r0, rv r1] [(.ref eC), (.ref sw)])) rfl (by rw [hml]; rfl) (Steps.refl _) (argsL := []) (rest := [(.ref sw)]) (lenOf pd_8 rfl) rfl (by show 2 * 0 + _ ≤ _; exact Nat.le_of_eq rfl) (hb hby d23_7) (fun _ _ => ⟨rfl, e2, (by decide : 0 + 0 ≤ _), (by decide : 0 + 0 ≤ _)⟩)
 dsimp only [Pt.U, Pt.locs, Pt.cells, Pt.slots] at X3 l3 y3 z3 st3 hQ3
 subst l3 y3 z3
 obtain ⟨rfl, N3q, eh3⟩ := hQ3
 have N3 := Fr.app N0 N3q
 obtain ⟨cl4, Ar4, q4, S4, M4, H4, G4⟩ := id (SS.2.2.2.2.2.2.2.2.2.2.2.2.2.2.2.2.2.2.2.1.ext O0.2)
 have hin4 : ¬ ((2 : Int32) < 0 ∨ cl4.slots.size ≤ ((2 : Int32)).toNatClampNeg) := inb_of S4 ⟨by decide, by decide⟩
 have hat4 : cl4.slots[((2 : Int32)).toNatClampNeg]? = some (.int (1 : Int32)) := H4.at hin4 rfl
 obtain ⟨T5, X5, e5, st5⟩ := getF X3 hx hZ hown (host := "") (Or.inl (hq hw 100 rfl)) Via.refl eh3 Fo_ (g := (mkF m 47 #[rv r0, rv r1] [(.ref r0)])) rfl rfl (hb hby d23_47)
 obtain ⟨cq6, kq6, q6a, q6b, q6c⟩ := isOf hZ e5 Eo
 obtain ⟨_, _, ⟨T6, L6, k6, n6⟩, -, X6, ⟨Lc6, hQ6, l6, y6, z6⟩, st6⟩ := X5.virtualBack hx (y := (⟨"java/util/Optional", "orElseThrow", "()Ljava/lang/Object;"⟩ : MethodName)) (z := (⟨"java/util/Optional", "orElseThrow", "()Ljava/lang/Object;"⟩ : MethodName)) hown (mvT hZ (hq hw 274 rfl)) (mvT hZ (hq hw 275 rfl)) (notFace_of_selects (args := #[]) (mvT hZ (hq hw 277 rfl))) (mvT hZ (hq hw 277 rfl)) (mvT hZ (hq hw 276 rfl)) (by decide) (backOf (W := 0) (rmOorElseThrow0 l Z a0 hw [] xo xl h0 n0 Z0 Fv_ ) hZ (hq hw 278 rfl) (hq hw 7 rfl) (by decide) (by decide)) q6a q6c (g := (mkF m 50 #[rv r0, rv r1] [(.ref xo)])) rfl (by rw [hml]; rfl) (Steps.refl _) (argsL := []) (rest := []) (lenOf pd_18 rfl) rfl (by show 2 * 0 + _ ≤ _; exact Nat.le_of_eq rfl) (hb hby d23_50) (fun _ _ => ⟨rfl, e5, (by decide : 0 + 0 ≤ _), (by decide : 0 + 0 ≤ _)⟩)
 dsimp only [Pt.U, Pt.locs, Pt.cells, Pt.slots] at X6 l6 y6 z6 st6 hQ6
 subst l6 y6 z6
 obtain ⟨rfl, N6q, eh6⟩ := hQ6
 have N6 := Fr.app N3 N6q
 obtain ⟨T7, X7, e7, st7⟩ := castY X6 hx hZ hown (hq hw 279 rfl) eh6 (Ins.self ExC) (g := (mkF m 53 #[rv r0, rv r1] [(.ref xl)])) rfl rfl (hb hby d23_53)
 obtain ⟨cq8, kq8, q8a, q8b, q8c⟩ := isOf hZ e7 ExC
 obtain ⟨_, _, ⟨T8, L8, k8, n8⟩, -, X8, ⟨Lc8, hQ8, l8, y8, z8⟩, st8⟩ := X7.virtualBack hx (y := (⟨"java/time/LocalDate", "plusDays", "(J)Ljava/time/LocalDate;"⟩ : MethodName)) (z := (⟨"java/time/LocalDate", "plusDays", "(J)Ljava/time/LocalDate;"⟩ : MethodName)) hown (mvT hZ (hq hw 300 rfl)) (mvT hZ (hq hw 301 rfl)) (notFace_of_selects (args := #[]) (mvT hZ (hq hw 303 rfl))) (mvT hZ (hq hw 303 rfl)) (mvT hZ (hq hw 302 rfl)) (by decide) (backOf (W := 0) (rm41 l Z a0 hw [] xl eN eA eC ps crr ads sw oe efd rfd eyr ryr bt bf ic ksw yC mC dC (zC) h0 n0 Z0 O0 ExC FyC FmC FdC SS DC hz1) hZ (hq hw 304 rfl) (hq hw 104 rfl) (by decide) (by decide)) q8a q8c (g := (mkF m 57 #[rv r0, rv r1] [(.long (1 : Int64)), (.ref xl)])) rfl (by rw [hml]; rfl) (Steps.refl _) (argsL := [(.long (1 : Int64))]) (rest := []) (lenOf pd_19 rfl) rfl (by show 2 * 0 + _ ≤ _; exact Nat.le_of_eq rfl) (hb hby d23_57) (fun _ _ => ⟨rfl, e7, (by decide : 0 + 1 ≤ _), (by decide : 0 + 3 ≤ _)⟩)
 dsimp only [Pt.U, Pt.locs, Pt.cells, Pt.slots] at X8 l8 y8 z8 st8 hQ8
 subst l8 y8 z8
 obtain ⟨bd8, yd8, md8, dd8, rfl, N8q, K8, A8, Gy8, Gm8, Gd8, DT8⟩ := hQ8
 have N8 := Fr.app N6 N8q
 have fa9 := O0.keep K8 all0
 have fa10 := El.keep K8
 have fa11 := Fm_.keep K8 nin0
 have fa12 := Fo_.keep K8 nin0
 have fa13 := Eo.keep K8
 have fa14 := Fv_.keep K8 nin0
 have fa15 := ExC.keep K8
 have fa16 := FyC.keep K8 nin0
 have fa17 := FmC.keep K8 nin0
 have fa18 := FdC.keep K8 nin0
 have z19 : n0 ≤ T8.heap.size := Nat.le_trans Z0 K8.1
 have kp20 : Keep h0 T8.heap [] := kp0.trans K8 all0
 obtain ⟨_, _, ⟨T21, L21, k21, n21⟩, -, X21, ⟨Lc21, hQ21, l21, y21, z21⟩, st21⟩ := Jvm.LawKit.callS X8 hx (y := (⟨"java/util/Optional", "of", "(Ljava/lang/Object;)Ljava/util/Optional;"⟩ : MethodName)) hown (mvT hZ (hq hw 247 rfl)) (mvT hZ (hq hw 248 rfl)) (mvT hZ (hq hw 7 rfl)) (mvT hZ (hq hw 249 rfl)) (by decide) (backOf (W := 0) (rm33 l Z a0 hw [] bd8  T8.heap n0 z19  ) hZ (hq hw 249 rfl) (hq hw 7 rfl) (by decide) (by decide)) (g := (mkF m 60 #[rv r0, rv r1] [(.ref bd8)])) rfl (by rw [hml]; rfl) (argsL := [(.ref bd8)]) (rest := []) (lenOf pd_17 rfl) rfl (by show 2 * 0 + _ ≤ _; exact Nat.le_of_eq rfl) (hb hby d23_60) (fun _ _ => ⟨rfl, rfl, (by decide : 1 + 1 ≤ _), (by decide : 3 + 1 ≤ _)⟩)
 dsimp only [Pt.U, Pt.locs, Pt.cells, Pt.slots] at X21 l21 y21 z21 st21 hQ21
 subst l21 y21 z21
 obtain ⟨bo21, rfl, N21q, K21, A21, Gv21⟩ := hQ21
 have N21 := Fr.app N8 N21q
 have fa22 := fa9.keep K21 all0
 have fa23 := fa10.keep K21
 have fa24 := fa11.keep K21 nin0
 have fa25 := fa12.keep K21 nin0
 have fa26 := fa13.keep K21
 have fa27 := fa14.keep K21 nin0
 have fa28 := fa15.keep K21
 have fa29 := fa16.keep K21 nin0
 have fa30 := fa17.keep K21 nin0
 have fa31 := fa18.keep K21 nin0
 have fa32 := A8.keep K21
 have fa33 := Gy8.keep K21 nin0
 have fa34 := Gm8.keep K21 nin0
 have fa35 := Gd8.keep K21 nin0
 have z36 : n0 ≤ T21.heap.size := Nat.le_trans z19 K21.1
 have kp37 : Keep h0 T21.heap [] := kp20.trans K21 all0
 obtain ⟨fs, hr, hrun, hended, hW, hsame⟩ := X21.leave (v := some (.ref bo21)) (fun h => by rw [Bd.returns] at h; cases h)
 refine ⟨_, _, G0 _ ?_, hrun, hended, _, _, rfl, ?_, ⟨_, rfl⟩, hW, hsame.mono (by decide) (by decide)⟩
 ·skip
  refine st1 _ ?_
  refine XS.aloadN X1.here hx rfl (hb hby d23_3) rfl rfl ?_
  refine st2 _ ?_
  refine st3.trans ?_
  refine X3.iaload hx (j := (2 : Int32)) (v := (.int (1 : Int32))) (by rw [eh3]; exact Ar4.1) (State.isArrayOf_alike hZ.alike Ar4.2.1) Ar4.2.2 hin4 hat4 (g := (mkF m 10 #[rv r0, rv r1] [(.int (2 : Int32)), (.ref sw)])) rfl rfl (hb hby d23_10) _ ?_
  refine XS.tswIn X3.here hx rfl (pc0 := 11) (pc' := 46) rfl (hb hby d23_11) rfl (by decide) (o := 35) (by decide) (by decide) (by decide) ?_
  refine XS.aloadN X3.here hx rfl (hb hby d23_46) rfl rfl ?_
  refine st5 _ ?_
  refine st6.trans ?_
  refine st7 _ ?_
  refine XS.lconst X7.here hx rfl (hb hby d23_56) ?_
  refine st8.trans ?_
  refine st21 _ ?_
  refine XS.goto X21.here hx rfl (pc0 := 63) (pc' := 76) rfl (hb hby d23_63) (by decide) (by decide) ?_
  exact retOut X21 hx Bd.returns rfl (Or.inr (Or.inr (Or.inr (Or.inr ⟨rfl, rfl, rfl⟩)))) (hb hby d23_76) hr
 ·show QFO2 Z r0 r1 eN eA eC ps crr ads sw oe efd rfd eyr ryr bt bf ic ksw xo xl yC mC dC zC h0 n0 _ T21.heap _
  exact ⟨bo21, bd8, _, _, _, rfl, N21, kp37, A21, Gv21, fa32, fa33, fa34, fa35, DT8⟩
theorem d22_11 : decode prog_38_method_4_code 11 = .ok (.invokedynamic 84, 5) := by decide +kernel
theorem pd_20 : parseMethodDescriptor "(Ljava/time/chrono/ChronoLocalDate;)Z" = some ⟨[(.object "java/time/chrono/ChronoLocalDate")], some .boolean⟩ := by decide +kernel
theorem pd_21 : parseMethodDescriptor "(Z)Ljava/lang/Boolean;" = some ⟨[.boolean], some (.object "java/lang/Boolean")⟩ := by decide +kernel
def own_sg : Lambda.Shape := (Jvm.Lambda.Shape.mk "java/util/function/Function" "apply" (Jvm.ClassFile.MethodDescriptor.mk ([(Jvm.ClassFile.FieldType.object "java/lang/Object")] : List Jvm.ClassFile.FieldType) (Option.some (Jvm.ClassFile.FieldType.object "java/lang/Object"))) ([(Jvm.ClassFile.FieldType.object "java/time/LocalDate")] : List Jvm.ClassFile.FieldType) (5 : Nat) "java/time/LocalDate" "isBefore" (Jvm.ClassFile.MethodDescriptor.mk ([(Jvm.ClassFile.FieldType.object "java/time/chrono/ChronoLocalDate")] : List Jvm.ClassFile.FieldType) (Option.some Jvm.ClassFile.FieldType.boolean)) false (Jvm.ClassFile.MethodDescriptor.mk ([(Jvm.ClassFile.FieldType.object "java/time/LocalDate")] : List Jvm.ClassFile.FieldType) (Option.some (Jvm.ClassFile.FieldType.object "java/lang/Boolean"))))
def own_fB : ByteArray := ⟨#[0x2a, 0xb4, 0x00, 0x0f, 0x2b, 0xc0, 0x00, 0x13, 0xc0, 0x00, 0x15, 0xb6, 0x00, 0x19, 0xb8, 0x00, 0x1f, 0xb0]⟩
theorem own_fd0 : decode own_fB 0 = .ok (.aload_n 0, 1) := by decide +kernel
theorem own_fd1 : decode own_fB 1 = .ok (.getfield 15, 3) := by decide +kernel
theorem own_fd4 : decode own_fB 4 = .ok (.aload_n 1, 1) := by decide +kernel
theorem own_fd5 : decode own_fB 5 = .ok (.checkcast 19, 3) := by decide +kernel
theorem own_fd8 : decode own_fB 8 = .ok (.checkcast 21, 3) := by decide +kernel
theorem own_fd11 : decode own_fB 11 = .ok (.invokevirtual 25, 3) := by decide +kernel
theorem own_fd14 : decode own_fB 14 = .ok (.invokestatic 31, 3) := by decide +kernel
theorem own_fd17 : decode own_fB 17 = .ok (.areturn, 1) := by decide +kernel
def own_D : ClassFile := (own_sg.file "com/example/ratabl/ratabl/engine/Lock").getD { minorVersion := 0, majorVersion := 0, constantPool := #[], accessFlags := 0, thisClass := 0, superClass := 0, interfaces := #[], fields := #[], methods := #[], attributes := #[] }
def own_fw : Method := ((layoutMethods own_D).bind (·[1]?)).getD default
def own_lay : Array Field × Array FieldType × Array FieldType := (layoutFields own_D 0).getD (#[], #[], #[])
theorem own_file : own_sg.file "com/example/ratabl/ratabl/engine/Lock" = some own_D := by
  have h : (own_sg.file "com/example/ratabl/ratabl/engine/Lock").isSome = true := by decide +kernel
  obtain ⟨x, hx⟩ := Option.isSome_iff_exists.mp h
  simp [own_D, hx]
theorem own_second : ∃ ms, layoutMethods own_D = some ms ∧ ms[1]? = some own_fw := by
  have h : ((layoutMethods own_D).bind (·[1]?)).isSome = true := by decide +kernel
  obtain ⟨x, hx⟩ := Option.isSome_iff_exists.mp h
  have hf : own_fw = x := by simp [own_fw, hx]
  obtain ⟨ms, h1, h2⟩ := Option.bind_eq_some_iff.mp hx
  exact ⟨ms, h1, by rw [hf]; exact h2⟩
theorem own_laid : layoutFields own_D 0 = some own_lay := by
  have h : (layoutFields own_D 0).isSome = true := by decide +kernel
  obtain ⟨x, hx⟩ := Option.isSome_iff_exists.mp h
  simp [own_lay, hx]
theorem own_fcode : (own_fw.code.map fun c => (c.code.data, c.maxLocals)) = some (own_fB.data, 2) := by decide +kernel
theorem own_fflags : (own_fw.accessFlags, own_fw.name, own_fw.sig.returnType) = (0x0001, "apply", (some (.object "java/lang/Object") : Option FieldType)) := by decide +kernel
theorem own_eM : own_D.constantPool[25]? = some (.methodref 19 24) ∧ own_D.constantPool.className? 19 = some "java/time/LocalDate" ∧ own_D.constantPool.nameAndType? 24 = some ("isBefore", "(Ljava/time/chrono/ChronoLocalDate;)Z") := by decide +kernel
theorem own_eB : own_D.constantPool[31]? = some (.methodref 27 30) ∧ own_D.constantPool.className? 27 = some "java/lang/Boolean" ∧ own_D.constantPool.nameAndType? 30 = some ("valueOf", "(Z)Ljava/lang/Boolean;") := by decide +kernel
theorem own_eC : own_D.constantPool[19]? = some (.class_ 18) ∧ own_D.constantPool.string? 18 = some "java/time/LocalDate" ∧ 19 ≠ own_D.thisClass := by decide +kernel
theorem own_eI : own_D.constantPool[21]? = some (.class_ 20) ∧ own_D.constantPool.string? 20 = some "java/time/chrono/ChronoLocalDate" ∧ 21 ≠ own_D.thisClass := by decide +kernel
theorem own_eK : own_D.constantPool[27]? = some (.class_ 26) ∧ own_D.constantPool.string? 26 = some "java/lang/Boolean" ∧ 27 ≠ own_D.thisClass := by decide +kernel
theorem own_eF : own_D.constantPool[15]? = some (.fieldref 2 14) ∧ own_D.constantPool.nameAndType? 14 = some ("arg$1", "Ljava/time/LocalDate;") ∧ own_lay.1.findIdx? (·.name == "arg$1") = some 0 ∧ (own_lay.1[0]?).map (fun f => (f.isStatic, f.slot)) = some (false, 0) := by decide +kernel
theorem own_laty : own_lay.2.1 = #[.object "java/time/LocalDate"] := by decide +kernel
def own_MF (U : State) (cK : ClassId) : Prop :=
  ∃ (k tk bk : Class) (file : ClassFile) (methk : Method) (ck : Code) (ld cl bo : ClassId) (t tv : MethodId) (g0 : Field),
    U.vm.classes[cK]? = some k ∧ k.name = "com/example/ratabl/ratabl/engine/Lock$$Lambda" ∧ k.cf = some file ∧ file.constantPool = own_D.constantPool ∧
    U.vm.method? ⟨cK, 1⟩ = some methk ∧ methk.code = some ck ∧ ck.code = own_fB ∧ ck.maxLocals = 2 ∧ methk.locks = false ∧ methk.sig.returnType = some (.object "java/lang/Object") ∧
    U.vm.findClass "java/time/LocalDate" = some ld ∧ U.vm.classes[ld]? = some tk ∧ tk.isInterface = false ∧ U.methodNamed? (⟨"java/time/LocalDate", "isBefore", "(Ljava/time/chrono/ChronoLocalDate;)Z"⟩ : MethodName) = some t ∧
    U.vm.findClass "java/lang/Boolean" = some bo ∧ U.vm.classes[bo]? = some bk ∧ U.methodNamed? (⟨"java/lang/Boolean", "valueOf", "(Z)Ljava/lang/Boolean;"⟩ : MethodName) = some tv ∧ U.vm.findClass "java/time/chrono/ChronoLocalDate" = some cl ∧
    U.vm.methodReady cK 25 t ∧ U.vm.methodReady cK 31 tv ∧ U.vm.classReady cK 19 ld ∧ U.vm.classReady cK 21 cl ∧ U.vm.classReady cK 27 bo ∧ U.vm.fieldReady cK 15 cK g0 ∧ g0.isStatic = false ∧ g0.slot = 0 ∧ k.instanceTypes = #[.object "java/time/LocalDate"] ∧ k.kind = .ordinary
theorem own_ncode {U : State} {a : Array Value} {y : MethodName} {b : ByteArray} {n : Nat} {r : Option FieldType} (h : (Cond.code y b n r).before a U = true) : ∃ t, U.methodNamed? y = some t := by
  cases hn : U.methodNamed? y with
  | none => simp [Cond.before, Cond.holds, Cond.value, hn] at h
  | some t => exact ⟨t, rfl⟩
theorem own_mf0 {Z : State} {a0 : Array Value} (hw : ∀ d ∈ tables_1, d.before a0 Z = true) {cK : ClassId} {one : Option Addr} (hat : Z.lambdaAt? (⟨"com/example/ratabl/ratabl/engine/Lock", "closes", "(Ljava/time/LocalDate;Ljava/time/LocalDate;)Z"⟩ : MethodName) 11 84 own_sg = some (cK, one)) : own_MF Z cK := by
  obtain ⟨m, dk, cf0, i0, p0, lk, hm, hd, hcf, hsh, -, hfind, hmade, hcan, hlk⟩ := State.lambdaAt?_spec hat
  obtain ⟨dk1, hd1, hname⟩ := className_of_methodNamed hm
  cases hd.symm.trans hd1
  obtain ⟨dk', k, ok, tk, file, cf, object, iface, ld, lay, methods, target, found, hd', hk, hfile, hcf', hobj, -, hok, hlay, hms, ht, htk, hg, -, hrec, -, -, -, hitf, hpool, hmeth, hfields, hty, hres, -⟩ := Lambda.isMade_spec hmade
  cases hd.symm.trans hd'
  rw [hname, own_file] at hcf'
  cases hcf'
  obtain ⟨oc, okk, hoc, hokk, -, -, -, hsz⟩ := Cond.instantiable_spec (hq hw 193 rfl)
  cases hoc.symm.trans hobj
  cases hokk.symm.trans hok
  have hok0 : ok.instanceTypes = #[] := Array.eq_empty_of_size_eq_zero hsz
  rw [hsz, own_laid] at hlay
  cases hlay
  obtain ⟨ms, hms', h1⟩ := own_second
  cases hms.symm.trans hms'
  obtain ⟨b, hb, hsame⟩ := hmeth 1 own_fw h1
  obtain ⟨hn, -, hsig, hfl, x, y, hx, hy, -, hml, hcode, -⟩ := Lambda.sameMethod_spec hsame
  have fc := own_fcode
  have ff := own_fflags
  simp only [Prod.mk.injEq] at ff
  simp only [hx, Option.map_some, Option.some.injEq, Prod.mk.injEq] at fc
  obtain ⟨g0, hg0, hp0⟩ := Option.map_eq_some_iff.mp own_eF.2.2.2
  simp only [Prod.mk.injEq] at hp0
  obtain ⟨t, hnt⟩ := own_ncode (hq hw 264 rfl)
  obtain ⟨tv, hnv⟩ := own_ncode (hq hw 211 rfl)
  have et : target = t := Except.ok.inj (hg.symm.trans (Jvm.Free.Fw.look_of_named hnt (by decide) _ _ ht htk))
  subst et
  have hbo := findClass_of_methodNamed hnv
  obtain ⟨bk, hbk, -⟩ := className_of_methodNamed hnv
  have hbl := Jvm.Free.Fw.look_of_named hnv (by decide) _ _ hbo hbk
  obtain ⟨c1, cl, hc1, hcl, -⟩ := Cond.castable_spec (hq hw 260 rfl)
  refine ⟨k, tk, bk, file, b, y, ld, cl, tv.cls, target, tv, g0, hk, by rw [hrec.1, hname]; rfl, hfile, hpool.2.1, by simp [Vm.method?, hk, hb], hy, ?_, by rw [hml]; exact fc.2, ?_, by rw [hsig]; exact ff.2.2, ht, htk, hitf, hnt, hbo, hbk, hnv, hcl,
    ⟨k, hk, hres 25 _ (Lambda.resolvedOf_method own_eM.1 own_eM.2.1 ht htk own_eM.2.2 hg)⟩, ⟨k, hk, hres 31 _ (Lambda.resolvedOf_method own_eB.1 own_eB.2.1 hbo hbk own_eB.2.2 hbl)⟩,
    ⟨k, hk, hres 19 _ (Lambda.resolvedOf_class own_eC.1 own_eC.2.2 own_eC.2.1 ht)⟩, ⟨k, hk, hres 21 _ (Lambda.resolvedOf_class own_eI.1 own_eI.2.2 own_eI.2.1 hcl)⟩, ⟨k, hk, hres 27 _ (Lambda.resolvedOf_class own_eK.1 own_eK.2.2 own_eK.2.1 hbo)⟩,
    ⟨k, 0, k, hk, hres 15 _ (Lambda.resolvedOf_field own_eF.1 own_eF.2.1 own_eF.2.2.1), hk, hfields 0 _ hg0⟩, hp0.1, hp0.2, by rw [hty.1, hok0, own_laty]; rfl, hrec.2.1⟩
  · rw [hcode]; exact ByteArray.ext fc.1
  · simp [Method.locks, Method.isSynchronized, hfl, ff.1, hasFlag, Acc.synchronized]
theorem own_res {Z : State} {vm : Vm} (hZ : Z.Warmed39 vm) {d : ClassId} {k k' : Class} (hk : Z.vm.classes[d]? = some k) (hk' : vm.classes[d]? = some k') {i : Nat} {r : Resolved} (h : k.resolved[i]? = some (some r)) : k'.resolved[i]? = some (some r) := by
  rcases hZ.entry hk hk' i with e | ⟨e, -⟩
  · rw [e]; exact h
  · rw [h] at e; cases e
theorem own_named {Z U : State} (hA : Z.vm.Alike U.vm) {y : MethodName} {t : MethodId} (h : Z.methodNamed? y = some t) : U.methodNamed? y = some t := by
  have q : (Z.setVm U.vm).methodNamed? y = some t := by rw [State.methodNamed?_setVm hA]; exact h
  exact q
theorem own_mf {Z U : State} (hZ : Z.Warmed39 U.vm) {cK : ClassId} (h : own_MF Z cK) : own_MF U cK := by
  have hA := hZ.alike
  obtain ⟨k, tk, bk, file, methk, ck, ld, cl, bo, t, tv, g0, a1, a2, a3, a4, a5, a6, a7, a8, a9, a10, a11, a12, a13, a14, a15, a16, a17, a18, ⟨k1, b1, b1'⟩, ⟨k2, b2, b2'⟩, ⟨k3, b3, b3'⟩, ⟨k4, b4, b4'⟩, ⟨k5, b5, b5'⟩, ⟨k6, i6, k7, b6, b6', b7, b7'⟩, a25, a26, a27, a28⟩ := h
  cases a1.symm.trans b1
  cases a1.symm.trans b2
  cases a1.symm.trans b3
  cases a1.symm.trans b4
  cases a1.symm.trans b5
  cases a1.symm.trans b6
  cases a1.symm.trans b7
  obtain ⟨k', q1, e1⟩ := hA.2.2 _ _ a1
  obtain ⟨tk', q2, e2⟩ := hA.2.2 _ _ a12
  obtain ⟨bk', q3, e3⟩ := hA.2.2 _ _ a16
  refine ⟨k', tk', bk', file, methk, ck, ld, cl, bo, t, tv, g0, q1, by rw [e1]; exact a2, by rw [e1]; exact a3, a4, by rw [hA.method?]; exact a5, a6, a7, a8, a9, a10, by rw [hA.findClass]; exact a11, q2, by rw [e2]; exact a13, own_named hA a14, by rw [hA.findClass]; exact a15, q3, own_named hA a17, by rw [hA.findClass]; exact a18,
    ⟨k', q1, own_res hZ a1 q1 b1'⟩, ⟨k', q1, own_res hZ a1 q1 b2'⟩, ⟨k', q1, own_res hZ a1 q1 b3'⟩, ⟨k', q1, own_res hZ a1 q1 b4'⟩, ⟨k', q1, own_res hZ a1 q1 b5'⟩, ⟨k', i6, k', q1, own_res hZ a1 q1 b6', q1, by rw [e1]; exact b7'⟩, a25, a26, by rw [e1]; exact a27, by rw [e1]; exact a28⟩
theorem own_fnx0 {Z : State} {a0 : Array Value} (hw : ∀ d ∈ tables_1, d.before a0 Z = true) {cK : ClassId} {one : Option Addr} (hat : Z.lambdaAt? (⟨"com/example/ratabl/ratabl/engine/Lock", "closes", "(Ljava/time/LocalDate;Ljava/time/LocalDate;)Z"⟩ : MethodName) 11 84 own_sg = some (cK, one)) : Jvm.Free.HMW.FnX (⟨"java/util/function/Function", "apply", "(Ljava/lang/Object;)Ljava/lang/Object;"⟩ : MethodName) cK ⟨cK, 1⟩ Z := by
  obtain ⟨ms, h1, h2⟩ := own_second
  have ff := own_fflags
  simp only [Prod.mk.injEq] at ff
  exact (Jvm.Free.Fn.of_lambdaAt hat rfl rfl (by decide +kernel) (hq hw 259 rfl) own_file h1 h2 ff.1).1
theorem own_fnx {Z s : State} (hZ : Z.Warmed39 s.vm) {xi : MethodName} {cF : ClassId} {mk : MethodId} (h : Jvm.Free.HMW.FnX xi cF mk Z) : Jvm.Free.HMW.FnX xi cF mk s := by
  have hA := hZ.alike
  obtain ⟨kF, methK, h1, h2, h3, h4, h5⟩ := h
  obtain ⟨kF', h1', -⟩ := hA.2.2 _ _ h1
  refine ⟨kF', methK, h1', by rw [hA.method?]; exact h2, h3, h4, fun r0 r hn hr => ?_⟩
  have hn' : Z.methodNamed? xi = some r0 := by
    have q := State.methodNamed?_setVm (s := Z) hA xi
    rw [← q]; exact hn
  rw [hA.method?] at hr
  have q := h5 r0 r hn' hr
  rw [hA.assignable, hA.selectMethod]
  simp only [hA.superclasses, hA.declaredIn]
  exact q
def own_Lam (Z : State) (h : Heap) (f u : Addr) (cK : ClassId) : Prop := (∃ one, Z.lambdaAt? (⟨"com/example/ratabl/ratabl/engine/Lock", "closes", "(Ljava/time/LocalDate;Ljava/time/LocalDate;)Z"⟩ : MethodName) 11 84 own_sg = some (cK, one)) ∧ ∃ cell : Cell, h[f]? = some cell ∧ cell.cls = cK ∧ cell.vm = .none ∧ cell.slots[0]? = some (.ref u)
set_option maxHeartbeats 4000000 in
theorem own_indy {p : Program} {l : Launch} {e : Env} {R : Room} {s : State} {m : MethodId} {args : Array Value} {below : List Frame} {meth : Method} {c : Code} {T : State} {locs : List Loc} {cells slots : Nat} {Z : State} {a0 : Array Value} {h : Heap}
    (X : Stand p l e R s m args below meth c T locs cells slots) (hx : p.tables.exec = Jvm.exec) (hZ : Z.Warmed39 s.vm) (hw : ∀ d ∈ tables_1, d.before a0 Z = true) (hnm : s.methodNamed? (⟨"com/example/ratabl/ratabl/engine/Lock", "closes", "(Ljava/time/LocalDate;Ljava/time/LocalDate;)Z"⟩ : MethodName) = some m) (hml : c.maxLocals = 3) (hby : c.code = prog_38_method_4_code) (eT : T.heap = h) (u o : Addr) (Ls : Array Slot) (hLs : Ls.size = 3)
    (hwd : 3074 ≤ R.locals) (hce : cells + 1 ≤ R.cells) (hsl : slots + 1 ≤ R.slots) :
    ∃ T' h' cK, Stand p l e R s m args below meth c T' locs (cells + 1) (slots + 1) ∧ T'.heap = h' ∧ Ext h h' ∧ own_Lam Z h' h.size u cK ∧
      ∀ t, Steps p.tables e below (T'.setTop (mkF m 16 Ls [.ref h.size, .ref o])) t → Steps p.tables e below (T.setTop (mkF m 11 Ls [.ref u, .ref o])) t := by
  subst eT
  obtain ⟨cK, one, hat⟩ := Cond.lambdaSite_spec (hq hw 191 rfl)
  obtain ⟨m', k, cf, i0, p0, lk, hm', hk, hcf, hsh, -, hfind, hmade, hcan, hlk⟩ := State.lambdaAt?_spec hat
  have hA := hZ.alike
  have em : m' = m := Option.some.inj ((own_named hA hm').symm.trans hnm)
  subst em
  obtain ⟨rfl, rfl, -⟩ : lk = .makes cK ∧ one = none ∧ own_sg.captured ≠ [] := by
    rcases hlk with ⟨a, cell, -, -, h, -⟩ | h
    · exact absurd h (by decide)
    · exact h
  obtain ⟨b, nt, desc, site, hc, hnt, hsite, hcap⟩ := Lambda.shapeOf?_site hsh
  obtain ⟨kS, hkS, eS⟩ := hA.2.2 _ _ hk
  obtain ⟨kK, -, -, -, -, -, -, -, -, -, -, -, hkK, -, -, -, -, -, -, -, -, -, -, -, -, -, -, -, -, -, -, -, -, -, -, -, -, -, htyK, hkindK⟩ := own_mf hZ (own_mf0 hw hat)
  have hslotsE : ((kK.instanceTypes.toList.zip [Value.ref u]).map fun (t, x) => narrow t x) = [.ref u] := by rw [htyK]; rfl
  obtain ⟨X₁, st1⟩ := X.lambdaMakes hx (g := mkF m' 11 Ls [.ref u, .ref o]) rfl (by rw [hml]; exact hLs) (by rw [hby]; exact d22_11) (vals := [.ref u]) (rest := [.ref o])
    hkS (by rw [eS]; exact hfind) (by rw [eS]; exact hcf) hc hnt (parseLong_of_parse hsite) (by rw [hcap]; rfl) rfl hkK
    (by rw [X.admits.platform]; show 2 * 0 + (1 + (1 + 0)) + 3072 ≤ _; exact hwd) hce (by rw [hslotsE]; exact hsl)
    (fun i x hx => by
      rw [hslotsE] at hx
      cases i with
      | zero => simp at hx; subst hx; simp [State.fitsSlot, State.slotType?, hkK, hkindK, htyK, fits]
      | succ j => simp at hx)
  rw [hslotsE] at X₁ st1
  refine ⟨_, _, cK, X₁, rfl, ⟨?_, fun a ca h => ?_⟩, ⟨⟨_, hat⟩, _, State.heap_pushCell_size _ _, rfl, rfl, rfl⟩, fun t ht => st1 t ht⟩
  · simp
  · rw [State.heap_pushCell_of_lt _ _ (Array.getElem?_eq_some_iff.mp h).1]; exact h

theorem own_sat {e : Env} {s' V Z : State} {a0 : Array Value} {cK : ClassId} (hV : s'.WarmedH V.vm) (hZU : Z.Warmed39 s'.vm) (hw : ∀ d ∈ tables_1, d.before a0 Z = true) (M : own_MF Z cK) : Jvm.Free.Fw.StaticAt e V cK 31 (⟨"java/lang/Boolean", "valueOf", "(Z)Ljava/lang/Boolean;"⟩ : MethodName) 1 := by
  have hZV : Z.Warmed39 V.vm := wtrans hZU hV
  obtain ⟨k, tk, bk, file, methk, ck, ld, cl, bo, t, tv, g0, hkK, hkn, hfile, hpool, hmk, hck, hbytes, hmlk, hlk, hret, hld, htk, hitf, hnt, hbo, hbk, hnv, hcl', r25, r31, r19, r21, r27, r15, hs0, hsl0, -, -⟩ := own_mf hZV M
  have hcode2 : (Cond.code (⟨"java/lang/Boolean", "valueOf", "(Z)Ljava/lang/Boolean;"⟩ : MethodName) jdk_2055_method_5_code 1 (some (.object "java/lang/Boolean"))).before #[] V = true := mvT hZV (hq hw 211 rfl)
  exact Jvm.Free.Fw.StaticAt.of_made (y := (⟨"java/lang/Boolean", "valueOf", "(Z)Ljava/lang/Boolean;"⟩ : MethodName)) (ci := 27) (nt := 30) hkK hfile (by rw [hpool]; exact own_eB.1) (by rw [hpool]; exact own_eB.2.2) r31 r27 hbo hbk (Jvm.Free.Fw.look_of_named hnv (by decide) _ _ hbo hbk) (by decide) hcode2 (mvT hZV (hq hw 209 rfl)) (mvT hZV (hq hw 210 rfl)) pd_21 rfl

set_option maxHeartbeats 8000000 in
theorem own_pays {p : Program} {l : Launch} {e : Env} (hx : p.tables.exec = Jvm.exec) (hadm : l.admits e) {R : Room} {s : State} {args : Array Value} {below : List Frame} {Z : State} {a0 : Array Value} {h : Heap} {n0 W : Nat} {eN eA eC ps crr ads sw oe efd rfd eyr ryr bt bf ic : Addr} {ksw cK : Nat} (hZ : Z.Warmed39 s.vm) (hw : ∀ d ∈ tables_1, d.before a0 Z = true)
    {f u nd : Addr} {yA mA dA yB mB dB : Int32} {zA zB : Int} (Z0 : n0 ≤ h.size) (O : Old Z n0 h) (SS : Stw Z eN eA eC ps crr ads sw oe efd rfd eyr ryr bt bf ic ksw) (LM : own_Lam Z h f u cK) (ExA : Exa Z h u "java/time/LocalDate") (FyA : Fld Z h u "java/time/LocalDate" "year" "I" (.int yA)) (FmA : Fld Z h u "java/time/LocalDate" "month" "S" (.int mA)) (FdA : Fld Z h u "java/time/LocalDate" "day" "S" (.int dA)) (ExB : Exa Z h nd "java/time/LocalDate") (FyB : Fld Z h nd "java/time/LocalDate" "year" "I" (.int yB)) (FmB : Fld Z h nd "java/time/LocalDate" "month" "S" (.int mB)) (FdB : Fld Z h nd "java/time/LocalDate" "day" "S" (.int dB)) (DA : own_dt yA mA dA zA) (DB : own_dt yB mB dB zB) (hfr : 3 ≤ R.frames) (hlo : W + 13 + 27 ≤ R.locals) :
    BackW l R p e below s args (fun _ m' => m' = ⟨cK, 1⟩) 5 W (fun A a => a = #[.ref f, .ref nd] ∧ A.U.heap = h ∧ A.cells ≤ R.cells ∧ A.slots ≤ R.slots)
      (fun A a v B => v = some (.ref (own_bo (own_lt zA zB) bt bf)) ∧ B.U.heap = h ∧ ∃ L, Fr n0 L ∧ B.locs = A.locs ++ L ∧ B.cells = A.cells ∧ B.slots = A.slots) := by
  intro m meth c A gj ig mk a X hg hsize hdg hW hwho hpre
  obtain ⟨U, L, cc, nn⟩ := A
  dsimp only [Pt.U, Pt.locs, Pt.cells, Pt.slots] at X hpre hwho ⊢
  obtain ⟨rfl, hhU, hcl, hsl⟩ := hpre
  subst hwho
  have hZU : Z.Warmed39 U.vm := wtrans hZ X.warmed
  obtain ⟨⟨one, hat⟩, cell, hcell, hcls, hcvm, hc0⟩ := LM
  obtain ⟨k, tk, bk, file, methk, ck, ld, cl, bo, t, tv, g0, hkK, hkn, hfile, hpool, hmk, hck, hbytes, hmlk, hlk, hret, hld, htk, hitf, hnt, hbo, hbk, hnv, hcl', r25, r31, r19, r21, r27, r15, hs0, hsl0, -, -⟩ := own_mf hZU (own_mf0 hw hat)
  have hcode1 : (Cond.code (⟨"java/time/LocalDate", "isBefore", "(Ljava/time/chrono/ChronoLocalDate;)Z"⟩ : MethodName) jdk_2323_method_72_code 2 (some .boolean)).before #[] U = true := mvT hZU (hq hw 264 rfl)
  have hVA : Jvm.Free.Fw.VirtualAt e U cK 25 (⟨"java/time/LocalDate", "isBefore", "(Ljava/time/chrono/ChronoLocalDate;)Z"⟩ : MethodName) ld 1 := Jvm.Free.Fw.VirtualAt.of_made hadm (y := (⟨"java/time/LocalDate", "isBefore", "(Ljava/time/chrono/ChronoLocalDate;)Z"⟩ : MethodName)) (ci := 19) (nt := 24) hkK hfile (by rw [hpool]; exact own_eM.1) r25 r19 hld htk hitf hnt (by decide) hcode1 (mvT hZU (hq hw 263 rfl)) (mvT hZU (hq hw 262 rfl)) pd_20 rfl
  obtain ⟨cu, ku, hu1, hu2, hu3, hu4, -⟩ := id ExA
  obtain ⟨cn, kn, hn1, hn2, hn3, hn4, -⟩ := id ExB
  have eld : ld = cu.cls := Option.some.inj (hld.symm.trans (by rw [hZU.alike.findClass]; exact hu2))
  obtain ⟨kn', hkn', -⟩ := hZU.alike.2.2 _ _ hn3
  have eln : ld = cn.cls := Option.some.inj (hld.symm.trans (by rw [hZU.alike.findClass]; exact hn2))
  obtain ⟨q1c, q1t, w1, w2, w3⟩ := Cond.castable_spec (mvT (args := #[]) hZU (hq hw 157 rfl))
  obtain ⟨q2c, q2t, w4, w5, w6⟩ := Cond.castable_spec (mvT (args := #[]) hZU (hq hw 260 rfl))
  cases hld.symm.trans w1
  cases hld.symm.trans w2
  cases hld.symm.trans w4
  cases hcl'.symm.trans w5
  obtain ⟨kcl, hkcl, -⟩ := Vm.findClass_spec hcl'
  have fit1 : Jvm.Free.Fw.Fits U ld (.ref nd) := Or.inr ⟨nd, cn, kn', tk, rfl, by rw [hhU]; exact hn1, (fun q hq => by rw [hq] at hn4; cases hn4), hkn', htk, by rw [← eln]; exact w3⟩
  have fit2 : Jvm.Free.Fw.Fits U cl (.ref nd) := Or.inr ⟨nd, cn, kn', kcl, rfl, by rw [hhU]; exact hn1, (fun q hq => by rw [hq] at hn4; cases hn4), hkn', hkcl, by rw [← eln]; exact w6⟩
  obtain ⟨v, T', U₁, L₁, c₁, n₁, X', ⟨hv, hh1, hF1, hc1, hn1'⟩, hh, hvv, -, steps⟩ := X.through hg hsize hdg #[.ref f, .ref nd] (R' := ({ frames := 2, cells := 0, slots := 0, locals := 27 } : Room)) hmk hck hlk
    (State.plainMethod.of_name (fun k' hk' => by cases hkK.symm.trans hk'; rw [hkn]; decide)) hfr (by rw [hmlk]; show _ + (2 + 11) + 27 ≤ _; omega) hcl hsl
    (Φ := fun v U₁ L₁ c₁ n₁ => v = some (.ref (own_bo (own_lt zA zB) bt bf)) ∧ U₁.heap = h ∧ Fr n0 L₁ ∧ c₁ = 0 ∧ n₁ = 0)
    (fun U₀ hU₀ Y₀ => by
      have hvm : U₀.vm = U.vm := by rw [hU₀]; rfl
      have hheap : U₀.heap = U.heap := by rw [hU₀]; rfl
      have hZ₀ : Z.Warmed39 (U.calling gj ⟨cK, 1⟩ #[.ref f, .ref nd]).vm := hZU
      rw [hmlk]
      rw [Jvm.Free.Fw.entry2 _ _ rfl]
      have k1 : Steps p.tables e (.java gj :: below) (U₀.setTop { method := ⟨cK, 1⟩, pc := 0, locals := #[.val (.ref f), .val (.ref nd)], stack := [], locked := none }) (U₀.setTop { method := ⟨cK, 1⟩, pc := 1, locals := #[.val (.ref f), .val (.ref nd)], stack := [.ref f], locked := none }) := by
        jvm_step Y₀.here [hx, hbytes, own_fd0, Value.isRef]
        exact Steps.refl _
      have k2 := Y₀.getfieldR hx (g := { method := ⟨cK, 1⟩, pc := 1, locals := #[.val (.ref f), .val (.ref nd)], stack := [.ref f], locked := none }) rfl (index := 15) (cF := cK) (a := f) (field := g0) (cell := cell) (v := .ref u) (rest := []) (by rw [hvm]; exact r15) hs0 rfl (by rw [hheap, hhU]; exact hcell) (by rw [hcvm]; intro q; cases q) (by rw [hsl0]; exact hc0) (by rw [hbytes]; exact own_fd1) k1
      have k3 : Steps p.tables e (.java gj :: below) (U₀.setTop { method := ⟨cK, 1⟩, pc := 0, locals := #[.val (.ref f), .val (.ref nd)], stack := [], locked := none }) (U₀.setTop { method := ⟨cK, 1⟩, pc := 5, locals := #[.val (.ref f), .val (.ref nd)], stack := [.ref nd, .ref u], locked := none }) := by
        refine k2.trans ?_
        jvm_step Y₀.here [hx, hbytes, own_fd4, Value.isRef]
        exact Steps.refl _
      have k4 := Y₀.checkcastR hx (g := { method := ⟨cK, 1⟩, pc := 5, locals := #[.val (.ref f), .val (.ref nd)], stack := [.ref nd, .ref u], locked := none }) rfl (index := 19) (cT := ld) (x := .ref nd) (rest := [.ref u]) (by rw [hvm]; exact r19) rfl (fit1.of hvm hheap) (by rw [hbytes]; exact own_fd5) k3
      have k5 := Y₀.checkcastR hx (g := { method := ⟨cK, 1⟩, pc := 8, locals := #[.val (.ref f), .val (.ref nd)], stack := [.ref nd, .ref u], locked := none }) rfl (index := 21) (cT := cl) (x := .ref nd) (rest := [.ref u]) (by rw [hvm]; exact r21) rfl (fit2.of hvm hheap) (by rw [hbytes]; exact own_fd8) k4
      obtain ⟨r, t', kr, kt, methr, metht, q1, q2, q3, q4, q5, q6, q7, q8, q9, q10, q11, q12, q13⟩ := hVA.of hvm
      obtain ⟨v1, ⟨U₁, L₁, c₁, n₁⟩, Y₁, ⟨La, ⟨rfl, hFa, hha⟩, eL1, eC1, eN1⟩, k6⟩ := Y₀.virtualR hx (g := { method := ⟨cK, 1⟩, pc := 11, locals := #[.val (.ref f), .val (.ref nd)], stack := [.ref nd, .ref u], locked := none }) rfl (by rw [hmlk]; rfl) (index := 25) (a := u) (y := (⟨"java/time/LocalDate", "isBefore", "(Ljava/time/chrono/ChronoLocalDate;)Z"⟩ : MethodName)) (cell := cu) (argsL := [.ref nd]) (rest := []) q1 q2 q3 q4 q5 q6 q7.symm rfl (by rw [hheap, hhU]; exact hu1) (fun q hq => by rw [hq] at hu4; cases hu4) (by rw [← eld]; exact q8) q9 q10 q11 q12 q13
        (backOf (W := 0) (rm35 l Z a0 hw [] u nd yA mA dA yB mB dB zA zB h n0 Z0 ExA FyA FmA FdA ExB FyB FmB FdB DA DB) hZ₀ (hq hw 264 rfl) (hq hw 104 rfl) (by decide) (by decide)) (by show 2 * 0 + 0 ≤ 0; decide) ⟨rfl, hheap.trans hhU, Nat.le_refl _, Nat.le_refl _⟩ (by rw [hbytes]; exact own_fd11) k5
      dsimp only [Pt.U, Pt.locs, Pt.cells, Pt.slots] at Y₁ k6 eL1 eC1 eN1 hha
      subst eL1 eC1 eN1
      obtain ⟨t2, kt2, metht2, s1, s2, s3, s4, s5, s6, s7, s8, s9⟩ := own_sat (e := e) Y₁.warmed hZ₀ hw (own_mf0 hw hat)
      obtain ⟨v2, ⟨U₂, L₂, c₂, n₂⟩, Y₂, ⟨Lb, ⟨rfl, hFb, hhb⟩, eL2, eC2, eN2⟩, k7⟩ := Y₁.staticR hx (g := { method := ⟨cK, 1⟩, pc := 14, locals := #[.val (.ref f), .val (.ref nd)], stack := [.int (own_lt zA zB)], locked := none }) rfl (by rw [hmlk]; rfl) (index := 31) (y := (⟨"java/lang/Boolean", "valueOf", "(Z)Ljava/lang/Boolean;"⟩ : MethodName)) (argsL := [.int (own_lt zA zB)]) (rest := []) s1 s2 s3 s4 s5 s6 s7 s8.symm rfl s9
        (backOf (W := 0) (rm28 l Z a0 hw [] (own_lt zA zB) eN eA eC ps crr ads sw oe efd rfd eyr ryr bt bf ic ksw h n0 Z0 O SS) hZ₀ (hq hw 211 rfl) (hq hw 210 rfl) (by decide) (by decide)) (by show 2 * 0 + 0 ≤ 0; decide) ⟨rfl, hha, Nat.le_refl _, Nat.le_refl _⟩ (by rw [hbytes]; exact own_fd14) k6
      dsimp only [Pt.U, Pt.locs, Pt.cells, Pt.slots] at Y₂ k7 eL2 eC2 eN2 hhb
      subst eL2 eC2 eN2
      exact ⟨_, U₂, _, _, _, Y₂, (fun q => by rw [hret] at q; cases q), ⟨rfl, hhb, Fr.app (Fr.app (Fr.nil n0) hFa) hFb, rfl, rfl⟩, fun fs hleave => k7.trans (Y₂.areturnOut hx rfl hret rfl (by rw [hbytes]; exact own_fd17) hleave)⟩)
  exact ⟨v, ⟨T', L ++ L₁, cc + c₁, nn + n₁⟩, X', ⟨hv, hh.trans hh1, L₁, hF1, rfl, by rw [hc1]; rfl, by rw [hn1']; rfl⟩, steps⟩

theorem own_boE {Z : State} {eN eA eC ps crr ads sw oe efd rfd eyr ryr bt bf ic : Addr} {ksw : ClassId} (SS : Stw Z eN eA eC ps crr ads sw oe efd rfd eyr ryr bt bf ic ksw) {cb : Int32} (h : cb = 0 ∨ cb = 1) : Exa Z Z.heap (own_bo cb bt bf) "java/lang/Boolean" ∧ Fld Z Z.heap (own_bo cb bt bf) "java/lang/Boolean" "value" "Z" (.int cb) := by
  rcases h with rfl | rfl
  · rw [own_bo0]; exact ⟨SS.2.2.2.2.2.2.2.2.2.2.2.2.2.2.2.2.2.2.2.2.2.2.2.2.2.2.2.2.2.2.2.2.2.2.1, SS.2.2.2.2.2.2.2.2.2.2.2.2.2.2.2.2.2.2.2.2.2.2.2.2.2.2.2.2.2.2.2.2.2.2.2.1⟩
  · rw [own_bo1]; exact ⟨SS.2.2.2.2.2.2.2.2.2.2.2.2.2.2.2.2.2.2.2.2.2.2.2.2.2.2.2.2.2.2.2.2.1, SS.2.2.2.2.2.2.2.2.2.2.2.2.2.2.2.2.2.2.2.2.2.2.2.2.2.2.2.2.2.2.2.2.2.1⟩
theorem own_fnw {Z s : State} {a0 args : Array Value} (hZ : Z.Warmed39 s.vm) (hw : ∀ d ∈ tables_1, d.before a0 Z = true) : ∀ w ∈ Jvm.Free.Fn.fnW "java/util/Optional" 57 (⟨"java/util/function/Function", "apply", "(Ljava/lang/Object;)Ljava/lang/Object;"⟩ : MethodName), w.before args s = true := by
  intro w hm
  simp only [Jvm.Free.Fn.fnW, List.mem_cons, List.not_mem_nil, or_false] at hm
  rcases hm with rfl | rfl | rfl
  · exact mvT hZ (hq hw 257 rfl)
  · exact mvT hZ (hq hw 258 rfl)
  · exact mvT hZ (hq hw 259 rfl)
theorem own_ltz {a b : Int} (h : own_lt a b = (0 : Int32)) : ¬ (a < b) := fun q => by rw [own_lt, if_pos q] at h; cases h
theorem own_ltn {a b : Int} (h : ¬ (own_lt a b = (0 : Int32))) : a < b := Classical.byContradiction fun q => h (by rw [own_lt, if_neg q])
theorem d26_0 : decode jdk_32_method_11_code 0 = .ok (.aload_n 1, 1) := by decide +kernel
theorem d26_1 : decode jdk_32_method_11_code 1 = .ok (.invokestatic 17, 3) := by decide +kernel
theorem d26_4 : decode jdk_32_method_11_code 4 = .ok (.pop, 1) := by decide +kernel
theorem d26_5 : decode jdk_32_method_11_code 5 = .ok (.aload_n 0, 1) := by decide +kernel
theorem d26_6 : decode jdk_32_method_11_code 6 = .ok (.invokevirtual 43, 3) := by decide +kernel
theorem d26_9 : decode jdk_32_method_11_code 9 = .ok (.ifCond .eq 7, 3) := by decide +kernel
theorem d26_12 : decode jdk_32_method_11_code 12 = .ok (.invokestatic 53, 3) := by decide +kernel
theorem d26_15 : decode jdk_32_method_11_code 15 = .ok (.areturn, 1) := by decide +kernel
def QMap0 (Z : State) (r0 : Addr) (r1 : Addr) (eN eA eC ps crr ads sw oe efd rfd eyr ryr bt bf ic : Addr) (ksw : ClassId) (h0 : Heap) (n0 : Nat) (v : Option Value) (h : Heap) (L : List Loc) : Prop := v = some (.ref oe) ∧ Fr n0 L ∧ h = h0
theorem ef_rmMap0 (m : MethodId) (x0 : Addr) (x1 : Addr) : entryFrame m #[(.ref x0), (.ref x1)] 2 = mkF m 0 #[.val (.ref x0), .val (.ref x1)] [] := by first | (simp [entryFrame, mkF, argsToLocals, Value.category]; done) | rfl
set_option maxRecDepth 65536 in
set_option maxHeartbeats 40000000 in
theorem rmMap0 (l : Launch) (Z : State) (a0 : Array Value) (hw : ∀ d ∈ tables_1, d.before a0 Z = true) (ws : List Jvm.Cond) (r0 : Addr) (r1 : Addr) (eN eA eC ps crr ads sw oe efd rfd eyr ryr bt bf ic : Addr) (ksw : ClassId) (h0 : Heap) (n0 : Nat) (Z0 : n0 ≤ h0.size) (O0 : Old Z n0 h0) (Eo : Exa Z h0 r0 "java/util/Optional") (Fv : Fld Z h0 r0 "java/util/Optional" "value" "Ljava/lang/Object;" .null) (SS : Stw Z eN eA eC ps crr ads sw oe efd rfd eyr ryr bt bf ic ksw) :
  MetFree l (⟨"java/util/Optional", "map", "(Ljava/util/function/Function;)Ljava/util/Optional;"⟩ : MethodName) (head1 (Jvm.Cond.code (⟨"java/util/Optional", "map", "(Ljava/util/function/Function;)Ljava/util/Optional;"⟩ : MethodName) jdk_32_method_11_code 2 (some (.object "java/util/Optional")) :: ws) ({ frames := 1, cells := 0, slots := 0, locals := 12 } : Room)) (fun a U => a = #[(.ref r0), (.ref r1)] ∧ Z.Warmed39 U.vm ∧ U.heap = h0) (fun _ _ _ _ _ => True) (fun _ U o U' => ∃ v L, o = .returned v ∧ QMap0 Z r0 r1 eN eA eC ps crr ads sw oe efd rfd eyr ryr bt bf ic ksw h0 n0 v U'.heap L ∧ FrameEnd U o U' L ({ frames := 1, cells := 0, slots := 0, locals := 12 } : Room).cells ({ frames := 1, cells := 0, slots := 0, locals := 12 } : Room).slots) := by
 refine MetFree.of_bodySF (plainFor_of_name pnc_java_util_Optional) hisR ?_
 intro p e s m args below meth c s₁ Bd hml0 hP hK
 obtain ⟨rfl, hZ, hh⟩ := hP
 have hx := Bd.exec
 have hby := Bd.bytes
 have hml : c.maxLocals = 2 := hml0
 have hown : s.vm.findClass "java/util/Optional" = some m.cls := findClass_of_methodNamed Bd.named
 have hnm := (name_of_methodNamed Bd.named Bd.method).1
 have X0 : Stand p l e ({ frames := 1, cells := 0, slots := 0, locals := 12 } : Room) s m #[(.ref r0), (.ref r1)] below meth c s₁ [] 0 0 := Stand.of_body Bd
 have e0 : s₁.heap = h0 := by rw [← hh, Bd.state]; rfl
 have N0 := Fr.nil n0
 have kp0 : Keep h0 h0 [] := Keep.refl _ _
 have G0 : ∀ t, Steps p.tables e below (s₁.setTop (mkF m 0 #[rv r0, rv r1] [])) t → Steps p.tables e below (s₁.setTop (entryFrame m #[(.ref r0), (.ref r1)] 2)) t := fun t k => castTop (ef_rmMap0 m r0 r1) k
 obtain ⟨_, _, ⟨T1, L1, k1, n1⟩, -, X1, ⟨Lc1, hQ1, l1, y1, z1⟩, st1⟩ := Jvm.LawKit.callS X0 hx (y := (⟨"java/util/Objects", "requireNonNull", "(Ljava/lang/Object;)Ljava/lang/Object;"⟩ : MethodName)) hown (mvT hZ (hq hw 199 rfl)) (mvT hZ (hq hw 189 rfl)) (mvT hZ (hq hw 48 rfl)) (mvT hZ (hq hw 190 rfl)) (by decide) (backOf (W := 0) (rm25 l Z a0 hw [] r1  h0 n0 Z0  ) hZ (hq hw 190 rfl) (hq hw 48 rfl) (by decide) (by decide)) (g := (mkF m 1 #[rv r0, rv r1] [(.ref r1)])) rfl (by rw [hml]; rfl) (argsL := [(.ref r1)]) (rest := []) (lenOf pd_9 rfl) rfl (by show 2 * 0 + _ ≤ _; exact Nat.le_of_eq rfl) (hb hby d26_1) (fun _ _ => ⟨rfl, e0, (by decide : 0 + 0 ≤ _), (by decide : 0 + 0 ≤ _)⟩)
 dsimp only [Pt.U, Pt.locs, Pt.cells, Pt.slots] at X1 l1 y1 z1 st1 hQ1
 subst l1 y1 z1
 obtain ⟨rfl, N1q, eh1⟩ := hQ1
 have N1 := Fr.app N0 N1q
 obtain ⟨cq2, kq2, q2a, q2b, q2c⟩ := isOf hZ eh1 Eo
 obtain ⟨_, _, ⟨T2, L2, k2, n2⟩, -, X2, ⟨Lc2, hQ2, l2, y2, z2⟩, st2⟩ := X1.virtualBack hx (y := (⟨"java/util/Optional", "isEmpty", "()Z"⟩ : MethodName)) (z := (⟨"java/util/Optional", "isEmpty", "()Z"⟩ : MethodName)) hown (mvT hZ (hq hw 200 rfl)) (mvT hZ (hq hw 201 rfl)) (notFace_of_selects (args := #[]) (mvT hZ (hq hw 203 rfl))) (mvT hZ (hq hw 203 rfl)) (mvT hZ (hq hw 202 rfl)) (by decide) (backOf (W := 0) (rmOisEmpty1 l Z a0 hw [] r0  h0 n0 Z0 Fv ) hZ (hq hw 204 rfl) (hq hw 7 rfl) (by decide) (by decide)) q2a q2c (g := (mkF m 6 #[rv r0, rv r1] [(.ref r0)])) rfl (by rw [hml]; rfl) (Steps.refl _) (argsL := []) (rest := []) (lenOf pd_6 rfl) rfl (by show 2 * 0 + _ ≤ _; exact Nat.le_of_eq rfl) (hb hby d26_6) (fun _ _ => ⟨rfl, eh1, (by decide : 0 + 0 ≤ _), (by decide : 0 + 0 ≤ _)⟩)
 dsimp only [Pt.U, Pt.locs, Pt.cells, Pt.slots] at X2 l2 y2 z2 st2 hQ2
 subst l2 y2 z2
 obtain ⟨rfl, N2q, eh2⟩ := hQ2
 have N2 := Fr.app N1 N2q
 have G3 : ∀ t, Steps p.tables e below (T2.setTop (mkF m 9 #[rv r0, rv r1] [(.int (1 : Int32))])) t → Steps p.tables e below (s₁.setTop (entryFrame m #[(.ref r0), (.ref r1)] 2)) t := by
  intro t kt
  refine G0 _ ?_
  refine XS.aloadN X0.here hx rfl (hb hby d26_0) rfl rfl ?_
  refine st1 _ ?_
  refine XS.pop X1.here hx rfl (hb hby d26_4) rfl rfl ?_
  refine XS.aloadN X1.here hx rfl (hb hby d26_5) rfl rfl ?_
  refine st2.trans ?_
  exact kt
 obtain ⟨_, _, ⟨T4, L4, k4, n4⟩, -, X4, ⟨Lc4, hQ4, l4, y4, z4⟩, st4⟩ := Jvm.LawKit.callS X2 hx (y := (⟨"java/util/Optional", "empty", "()Ljava/util/Optional;"⟩ : MethodName)) hown (mvT hZ (hq hw 207 rfl)) (mvT hZ (hq hw 6 rfl)) (mvT hZ (hq hw 7 rfl)) (mvT hZ (hq hw 8 rfl)) (by decide) (backOf (W := 0) (rm1 l Z a0 hw []  eN eA eC ps crr ads sw oe efd rfd eyr ryr bt bf ic ksw  h0 n0 Z0 O0  SS ) hZ (hq hw 8 rfl) (hq hw 7 rfl) (by decide) (by decide)) (g := (mkF m 12 #[rv r0, rv r1] [])) rfl (by rw [hml]; rfl) (argsL := []) (rest := []) (lenOf pd_14 rfl) rfl (by show 2 * 0 + _ ≤ _; exact Nat.le_of_eq rfl) (hb hby d26_12) (fun _ _ => ⟨rfl, eh2, (by decide : 0 + 0 ≤ _), (by decide : 0 + 0 ≤ _)⟩)
 dsimp only [Pt.U, Pt.locs, Pt.cells, Pt.slots] at X4 l4 y4 z4 st4 hQ4
 subst l4 y4 z4
 obtain ⟨rfl, N4q, eh4⟩ := hQ4
 have N4 := Fr.app N2 N4q
 obtain ⟨fs, hr, hrun, hended, hW, hsame⟩ := X4.leave (v := some (.ref oe)) (fun h => by rw [Bd.returns] at h; cases h)
 refine ⟨_, _, G3 _ ?_, hrun, hended, _, _, rfl, ?_, ⟨_, rfl⟩, hW, hsame.mono (by decide) (by decide)⟩
 ·skip
  refine XS.ifNo X2.here hx rfl (hb hby d26_9) rfl ((if0 _ _).trans (feq (by decide)).1) ?_
  refine st4 _ ?_
  exact retOut X4 hx Bd.returns rfl (Or.inr (Or.inr (Or.inr (Or.inr ⟨rfl, rfl, rfl⟩)))) (hb hby d26_15) hr
 ·show QMap0 Z r0 r1 eN eA eC ps crr ads sw oe efd rfd eyr ryr bt bf ic ksw h0 n0 _ T4.heap _
  rw [eh4]
  exact ⟨rfl, N4, rfl⟩
theorem d26_16 : decode jdk_32_method_11_code 16 = .ok (.aload_n 1, 1) := by decide +kernel
theorem d26_17 : decode jdk_32_method_11_code 17 = .ok (.aload_n 0, 1) := by decide +kernel
theorem d26_18 : decode jdk_32_method_11_code 18 = .ok (.getfield 13, 3) := by decide +kernel
theorem d26_21 : decode jdk_32_method_11_code 21 = .ok (.invokeinterface 57 2, 5) := by decide +kernel
theorem d26_26 : decode jdk_32_method_11_code 26 = .ok (.invokestatic 62, 3) := by decide +kernel
theorem d26_29 : decode jdk_32_method_11_code 29 = .ok (.areturn, 1) := by decide +kernel
def QMap1 (Z : State) (r0 : Addr) (r1 : Addr) (eN eA eC ps crr ads sw oe efd rfd eyr ryr bt bf ic : Addr) (ksw : ClassId) (vo u : Addr) (yA mA dA yB mB dB : Int32) (zA zB : Int) (cK : ClassId) (h0 : Heap) (n0 : Nat) (v : Option Value) (h : Heap) (L : List Loc) : Prop := ∃ b : Addr, v = some (.ref b) ∧ Fr n0 L ∧ Keep h0 h [] ∧ Exa Z h b "java/util/Optional" ∧ Fld Z h b "java/util/Optional" "value" "Ljava/lang/Object;" (.ref (own_bo (own_lt zA zB) bt bf))
theorem ef_rmMap1 (m : MethodId) (x0 : Addr) (x1 : Addr) : entryFrame m #[(.ref x0), (.ref x1)] 2 = mkF m 0 #[.val (.ref x0), .val (.ref x1)] [] := by first | (simp [entryFrame, mkF, argsToLocals, Value.category]; done) | rfl
set_option maxRecDepth 65536 in
set_option maxHeartbeats 40000000 in
theorem rmMap1 (l : Launch) (Z : State) (a0 : Array Value) (hw : ∀ d ∈ tables_1, d.before a0 Z = true) (ws : List Jvm.Cond) (r0 : Addr) (r1 : Addr) (eN eA eC ps crr ads sw oe efd rfd eyr ryr bt bf ic : Addr) (ksw : ClassId) (vo u : Addr) (yA mA dA yB mB dB : Int32) (zA zB : Int) (cK : ClassId) (h0 : Heap) (n0 : Nat) (Z0 : n0 ≤ h0.size) (O0 : Old Z n0 h0) (Eo : Exa Z h0 r0 "java/util/Optional") (Fv : Fld Z h0 r0 "java/util/Optional" "value" "Ljava/lang/Object;" (.ref vo)) (ExA : Exa Z h0 u "java/time/LocalDate") (FyA : Fld Z h0 u "java/time/LocalDate" "year" "I" (.int yA)) (FmA : Fld Z h0 u "java/time/LocalDate" "month" "S" (.int mA)) (FdA : Fld Z h0 u "java/time/LocalDate" "day" "S" (.int dA)) (ExB : Exa Z h0 vo "java/time/LocalDate") (FyB : Fld Z h0 vo "java/time/LocalDate" "year" "I" (.int yB)) (FmB : Fld Z h0 vo "java/time/LocalDate" "month" "S" (.int mB)) (FdB : Fld Z h0 vo "java/time/LocalDate" "day" "S" (.int dB)) (SS : Stw Z eN eA eC ps crr ads sw oe efd rfd eyr ryr bt bf ic ksw) (LMp : own_Lam Z h0 r1 u cK) (DA : own_dt yA mA dA zA) (DB : own_dt yB mB dB zB) :
  MetFree l (⟨"java/util/Optional", "map", "(Ljava/util/function/Function;)Ljava/util/Optional;"⟩ : MethodName) (head1 (Jvm.Cond.code (⟨"java/util/Optional", "map", "(Ljava/util/function/Function;)Ljava/util/Optional;"⟩ : MethodName) jdk_32_method_11_code 2 (some (.object "java/util/Optional")) :: ws) ({ frames := 3, cells := 1, slots := 1, locals := 40 } : Room)) (fun a U => a = #[(.ref r0), (.ref r1)] ∧ Z.Warmed39 U.vm ∧ U.heap = h0) (fun _ _ _ _ _ => True) (fun _ U o U' => ∃ v L, o = .returned v ∧ QMap1 Z r0 r1 eN eA eC ps crr ads sw oe efd rfd eyr ryr bt bf ic ksw vo u yA mA dA yB mB dB zA zB cK h0 n0 v U'.heap L ∧ FrameEnd U o U' L ({ frames := 3, cells := 1, slots := 1, locals := 40 } : Room).cells ({ frames := 3, cells := 1, slots := 1, locals := 40 } : Room).slots) := by
 refine MetFree.of_bodySF (plainFor_of_name pnc_java_util_Optional) hisR ?_
 intro p e s m args below meth c s₁ Bd hml0 hP hK
 obtain ⟨rfl, hZ, hh⟩ := hP
 have hx := Bd.exec
 have hby := Bd.bytes
 have hml : c.maxLocals = 2 := hml0
 have hown : s.vm.findClass "java/util/Optional" = some m.cls := findClass_of_methodNamed Bd.named
 have hnm := (name_of_methodNamed Bd.named Bd.method).1
 have X0 : Stand p l e ({ frames := 3, cells := 1, slots := 1, locals := 40 } : Room) s m #[(.ref r0), (.ref r1)] below meth c s₁ [] 0 0 := Stand.of_body Bd
 have e0 : s₁.heap = h0 := by rw [← hh, Bd.state]; rfl
 have N0 := Fr.nil n0
 have kp0 : Keep h0 h0 [] := Keep.refl _ _
 have G0 : ∀ t, Steps p.tables e below (s₁.setTop (mkF m 0 #[rv r0, rv r1] [])) t → Steps p.tables e below (s₁.setTop (entryFrame m #[(.ref r0), (.ref r1)] 2)) t := fun t k => castTop (ef_rmMap1 m r0 r1) k
 obtain ⟨_, _, ⟨T1, L1, k1, n1⟩, -, X1, ⟨Lc1, hQ1, l1, y1, z1⟩, st1⟩ := Jvm.LawKit.callS X0 hx (y := (⟨"java/util/Objects", "requireNonNull", "(Ljava/lang/Object;)Ljava/lang/Object;"⟩ : MethodName)) hown (mvT hZ (hq hw 199 rfl)) (mvT hZ (hq hw 189 rfl)) (mvT hZ (hq hw 48 rfl)) (mvT hZ (hq hw 190 rfl)) (by decide) (backOf (W := 0) (rm25 l Z a0 hw [] r1  h0 n0 Z0  ) hZ (hq hw 190 rfl) (hq hw 48 rfl) (by decide) (by decide)) (g := (mkF m 1 #[rv r0, rv r1] [(.ref r1)])) rfl (by rw [hml]; rfl) (argsL := [(.ref r1)]) (rest := []) (lenOf pd_9 rfl) rfl (by show 2 * 0 + _ ≤ _; exact Nat.le_of_eq rfl) (hb hby d26_1) (fun _ _ => ⟨rfl, e0, (by decide : 0 + 0 ≤ _), (by decide : 0 + 0 ≤ _)⟩)
 dsimp only [Pt.U, Pt.locs, Pt.cells, Pt.slots] at X1 l1 y1 z1 st1 hQ1
 subst l1 y1 z1
 obtain ⟨rfl, N1q, eh1⟩ := hQ1
 have N1 := Fr.app N0 N1q
 obtain ⟨cq2, kq2, q2a, q2b, q2c⟩ := isOf hZ eh1 Eo
 obtain ⟨_, _, ⟨T2, L2, k2, n2⟩, -, X2, ⟨Lc2, hQ2, l2, y2, z2⟩, st2⟩ := X1.virtualBack hx (y := (⟨"java/util/Optional", "isEmpty", "()Z"⟩ : MethodName)) (z := (⟨"java/util/Optional", "isEmpty", "()Z"⟩ : MethodName)) hown (mvT hZ (hq hw 200 rfl)) (mvT hZ (hq hw 201 rfl)) (notFace_of_selects (args := #[]) (mvT hZ (hq hw 203 rfl))) (mvT hZ (hq hw 203 rfl)) (mvT hZ (hq hw 202 rfl)) (by decide) (backOf (W := 0) (rmOisEmpty0 l Z a0 hw [] r0 vo h0 n0 Z0 Fv ) hZ (hq hw 204 rfl) (hq hw 7 rfl) (by decide) (by decide)) q2a q2c (g := (mkF m 6 #[rv r0, rv r1] [(.ref r0)])) rfl (by rw [hml]; rfl) (Steps.refl _) (argsL := []) (rest := []) (lenOf pd_6 rfl) rfl (by show 2 * 0 + _ ≤ _; exact Nat.le_of_eq rfl) (hb hby d26_6) (fun _ _ => ⟨rfl, eh1, (by decide : 0 + 0 ≤ _), (by decide : 0 + 0 ≤ _)⟩)
 dsimp only [Pt.U, Pt.locs, Pt.cells, Pt.slots] at X2 l2 y2 z2 st2 hQ2
 subst l2 y2 z2
 obtain ⟨rfl, N2q, eh2⟩ := hQ2
 have N2 := Fr.app N1 N2q
 have G3 : ∀ t, Steps p.tables e below (T2.setTop (mkF m 9 #[rv r0, rv r1] [(.int (0 : Int32))])) t → Steps p.tables e below (s₁.setTop (entryFrame m #[(.ref r0), (.ref r1)] 2)) t := by
  intro t kt
  refine G0 _ ?_
  refine XS.aloadN X0.here hx rfl (hb hby d26_0) rfl rfl ?_
  refine st1 _ ?_
  refine XS.pop X1.here hx rfl (hb hby d26_4) rfl rfl ?_
  refine XS.aloadN X1.here hx rfl (hb hby d26_5) rfl rfl ?_
  refine st2.trans ?_
  exact kt
 obtain ⟨T4, X4, e4, st4⟩ := getF X2 hx hZ hown (host := "") (Or.inl (hq hw 205 rfl)) Via.refl eh2 Fv (g := (mkF m 18 #[rv r0, rv r1] [(.ref r0), (.ref r1)])) rfl rfl (hb hby d26_18)
 have G5 : ∀ t, Steps p.tables e below (T4.setTop (mkF m 21 #[rv r0, rv r1] [(.ref vo), (.ref r1)])) t → Steps p.tables e below (s₁.setTop (entryFrame m #[(.ref r0), (.ref r1)] 2)) t := by
  intro t kt
  refine G3 _ ?_
  refine XS.ifYes X2.here hx rfl (pc0 := 9) (pc' := 16) rfl (hb hby d26_9) rfl ((if0 _ _).trans (teq (by decide)).1) (by decide) (by decide) ?_
  refine XS.aloadN X2.here hx rfl (hb hby d26_16) rfl rfl ?_
  refine XS.aloadN X2.here hx rfl (hb hby d26_17) rfl rfl ?_
  refine st4 _ ?_
  exact kt
 obtain ⟨⟨one_, hat_⟩, cel, hce1, hce2, hce3, hce4⟩ := id LMp
 obtain ⟨_, vm6, ⟨T6, L6, k6, n6⟩, -, X6, ⟨rfl, eh6, Lc6, N6q, l6, y6, z6⟩, st6⟩ := X4.fnAt hx (own := "java/util/Optional") (index := 57) (count := 2) (xi := (⟨"java/util/function/Function", "apply", "(Ljava/lang/Object;)Ljava/lang/Object;"⟩ : MethodName)) hown (own_fnw hZ hw) (by decide) (own_fnx hZ (own_fnx0 hw hat_)) (own_pays (W := 0) hx X4.admits hZ hw Z0 O0 SS LMp ExA FyA FmA FdA ExB FyB FmB FdB DA DB (by decide) (by decide)) (fun _ _ => rfl) ⟨cel, by rw [e4]; exact hce1, hce2, by rw [hce3]; rfl⟩ (g := (mkF m 21 #[rv r0, rv r1] [(.ref vo), (.ref r1)])) rfl (by rw [hml]; rfl) (Steps.refl _) (argsL := [.ref vo]) (rest := []) (lenOf pd_9 rfl) rfl (by show 2 * 0 + _ ≤ _; exact Nat.le_of_eq rfl) (hb hby d26_21) (fun _ _ => ⟨rfl, e4, (by decide : 0 ≤ _), (by decide : 0 ≤ _)⟩)
 dsimp only [Pt.U, Pt.locs, Pt.cells, Pt.slots] at X6 l6 y6 z6 st6 eh6
 subst l6 y6 z6
 have N6 := Fr.app N2 N6q
 obtain ⟨_, _, ⟨T7, L7, k7, n7⟩, -, X7, ⟨Lc7, hQ7, l7, y7, z7⟩, st7⟩ := Jvm.LawKit.callS X6 hx (y := (⟨"java/util/Optional", "ofNullable", "(Ljava/lang/Object;)Ljava/util/Optional;"⟩ : MethodName)) hown (mvT hZ (hq hw 270 rfl)) (mvT hZ (hq hw 271 rfl)) (mvT hZ (hq hw 7 rfl)) (mvT hZ (hq hw 272 rfl)) (by decide) (backOf (W := 0) (rm37 l Z a0 hw [] (own_bo (own_lt (zA) (zB)) bt bf)  h0 n0 Z0  ) hZ (hq hw 272 rfl) (hq hw 7 rfl) (by decide) (by decide)) (g := (mkF m 26 #[rv r0, rv r1] [(.ref (own_bo (own_lt (zA) (zB)) bt bf))])) rfl (by rw [hml]; rfl) (argsL := [(.ref (own_bo (own_lt (zA) (zB)) bt bf))]) (rest := []) (lenOf pd_17 rfl) rfl (by show 2 * 0 + _ ≤ _; exact Nat.le_of_eq rfl) (hb hby d26_26) (fun _ _ => ⟨rfl, eh6, (by decide : 0 + 1 ≤ _), (by decide : 0 + 1 ≤ _)⟩)
 dsimp only [Pt.U, Pt.locs, Pt.cells, Pt.slots] at X7 l7 y7 z7 st7 hQ7
 subst l7 y7 z7
 obtain ⟨bo7, rfl, N7q, K7, A7, Gv7⟩ := hQ7
 have N7 := Fr.app N6 N7q
 have fa8 := O0.keep K7 all0
 have fa9 := Eo.keep K7
 have fa10 := Fv.keep K7 nin0
 have fa11 := ExA.keep K7
 have fa12 := FyA.keep K7 nin0
 have fa13 := FmA.keep K7 nin0
 have fa14 := FdA.keep K7 nin0
 have fa15 := ExB.keep K7
 have fa16 := FyB.keep K7 nin0
 have fa17 := FmB.keep K7 nin0
 have fa18 := FdB.keep K7 nin0
 have z19 : n0 ≤ T7.heap.size := Nat.le_trans Z0 K7.1
 have kp20 : Keep h0 T7.heap [] := kp0.trans K7 all0
 obtain ⟨fs, hr, hrun, hended, hW, hsame⟩ := X7.leave (v := some (.ref bo7)) (fun h => by rw [Bd.returns] at h; cases h)
 refine ⟨_, _, G5 _ ?_, hrun, hended, _, _, rfl, ?_, ⟨_, rfl⟩, hW, hsame.mono (by decide) (by decide)⟩
 ·skip
  refine st6.trans ?_
  refine st7 _ ?_
  exact retOut X7 hx Bd.returns rfl (Or.inr (Or.inr (Or.inr (Or.inr ⟨rfl, rfl, rfl⟩)))) (hb hby d26_29) hr
 ·show QMap1 Z r0 r1 eN eA eC ps crr ads sw oe efd rfd eyr ryr bt bf ic ksw vo u yA mA dA yB mB dB zA zB cK h0 n0 _ T7.heap _
  exact ⟨bo7, rfl, N7, kp20, A7, Gv7⟩
theorem d22_0 : decode prog_38_method_4_code 0 = .ok (.aload_n 0, 1) := by decide +kernel
theorem d22_1 : decode prog_38_method_4_code 1 = .ok (.aload_n 1, 1) := by decide +kernel
theorem d22_2 : decode prog_38_method_4_code 2 = .ok (.invokevirtual 30, 3) := by decide +kernel
theorem pd_22 : parseMethodDescriptor "(Ljava/time/LocalDate;)Ljava/util/Optional;" = some ⟨[(.object "java/time/LocalDate")], some (.object "java/util/Optional")⟩ := by decide +kernel
theorem d22_5 : decode prog_38_method_4_code 5 = .ok (.aload_n 2, 1) := by decide +kernel
theorem d22_6 : decode prog_38_method_4_code 6 = .ok (.dup, 1) := by decide +kernel
theorem d22_7 : decode prog_38_method_4_code 7 = .ok (.invokestatic 78, 3) := by decide +kernel
theorem d22_10 : decode prog_38_method_4_code 10 = .ok (.pop, 1) := by decide +kernel
theorem d22_16 : decode prog_38_method_4_code 16 = .ok (.invokevirtual 88, 3) := by decide +kernel
theorem pd_23 : parseMethodDescriptor "(Ljava/util/function/Function;)Ljava/util/Optional;" = some ⟨[(.object "java/util/function/Function")], some (.object "java/util/Optional")⟩ := by decide +kernel
theorem d22_19 : decode prog_38_method_4_code 19 = .ok (.iconst 0, 1) := by decide +kernel
theorem d22_20 : decode prog_38_method_4_code 20 = .ok (.invokestatic 92, 3) := by decide +kernel
theorem d22_23 : decode prog_38_method_4_code 23 = .ok (.invokevirtual 97, 3) := by decide +kernel
theorem d22_26 : decode prog_38_method_4_code 26 = .ok (.checkcast 93, 3) := by decide +kernel
theorem d22_29 : decode prog_38_method_4_code 29 = .ok (.invokevirtual 100, 3) := by decide +kernel
theorem d22_32 : decode prog_38_method_4_code 32 = .ok (.ireturn, 1) := by decide +kernel
def QCl0 (Z : State) (r0 : Addr) (r1 : Addr) (r2 : Addr) (eN eA eC ps crr ads sw oe efd rfd eyr ryr bt bf ic : Addr) (ksw : ClassId) (yA mA dA : Int32) (zA : Int) (h0 : Heap) (n0 : Nat) (v : Option Value) (h : Heap) (L : List Loc) : Prop := v = some (.int (0 : Int32)) ∧ Fr n0 L ∧ Keep h0 h []
theorem ef_rmCl0 (m : MethodId) (x0 : Addr) (x1 : Addr) (x2 : Addr) : entryFrame m #[(.ref x0), (.ref x1), (.ref x2)] 3 = mkF m 0 #[.val (.ref x0), .val (.ref x1), .val (.ref x2)] [] := by first | (simp [entryFrame, mkF, argsToLocals, Value.category]; done) | rfl
set_option maxRecDepth 65536 in
set_option maxHeartbeats 40000000 in
theorem rmCl0 (l : Launch) (Z : State) (a0 : Array Value) (hw : ∀ d ∈ tables_1, d.before a0 Z = true) (ws : List Jvm.Cond) (r0 : Addr) (r1 : Addr) (r2 : Addr) (eN eA eC ps crr ads sw oe efd rfd eyr ryr bt bf ic : Addr) (ksw : ClassId) (yA mA dA : Int32) (zA : Int) (h0 : Heap) (n0 : Nat) (Z0 : n0 ≤ h0.size) (O0 : Old Z n0 h0) (El : Exa Z h0 r0 "com/example/ratabl/ratabl/engine/Lock") (Fm_ : Fld Z h0 r0 "com/example/ratabl/ratabl/engine/Lock" "method" "Lcom/example/ratabl/ratabl/model/LockDateMethod;" (.ref eN)) (ExA : Exa Z h0 r2 "java/time/LocalDate") (FyA : Fld Z h0 r2 "java/time/LocalDate" "year" "I" (.int yA)) (FmA : Fld Z h0 r2 "java/time/LocalDate" "month" "S" (.int mA)) (FdA : Fld Z h0 r2 "java/time/LocalDate" "day" "S" (.int dA)) (SS : Stw Z eN eA eC ps crr ads sw oe efd rfd eyr ryr bt bf ic ksw) (DA : own_dt yA mA dA zA) :
  MetFree l (⟨"com/example/ratabl/ratabl/engine/Lock", "closes", "(Ljava/time/LocalDate;Ljava/time/LocalDate;)Z"⟩ : MethodName) (head1 (Jvm.Cond.code (⟨"com/example/ratabl/ratabl/engine/Lock", "closes", "(Ljava/time/LocalDate;Ljava/time/LocalDate;)Z"⟩ : MethodName) prog_38_method_4_code 3 (some .boolean) :: ws) ({ frames := 2, cells := 1, slots := 1, locals := 3074 } : Room)) (fun a U => a = #[(.ref r0), (.ref r1), (.ref r2)] ∧ Z.Warmed39 U.vm ∧ U.heap = h0) (fun _ _ _ _ _ => True) (fun _ U o U' => ∃ v L, o = .returned v ∧ QCl0 Z r0 r1 r2 eN eA eC ps crr ads sw oe efd rfd eyr ryr bt bf ic ksw yA mA dA zA h0 n0 v U'.heap L ∧ FrameEnd U o U' L ({ frames := 2, cells := 1, slots := 1, locals := 3074 } : Room).cells ({ frames := 2, cells := 1, slots := 1, locals := 3074 } : Room).slots) := by
 refine MetFree.of_bodySF (plainFor_of_name pnc_com_example_ratabl_ratabl_engine_Lock) hisR ?_
 intro p e s m args below meth c s₁ Bd hml0 hP hK
 obtain ⟨rfl, hZ, hh⟩ := hP
 have hx := Bd.exec
 have hby := Bd.bytes
 have hml : c.maxLocals = 3 := hml0
 have hown : s.vm.findClass "com/example/ratabl/ratabl/engine/Lock" = some m.cls := findClass_of_methodNamed Bd.named
 have hnm := (name_of_methodNamed Bd.named Bd.method).1
 have X0 : Stand p l e ({ frames := 2, cells := 1, slots := 1, locals := 3074 } : Room) s m #[(.ref r0), (.ref r1), (.ref r2)] below meth c s₁ [] 0 0 := Stand.of_body Bd
 have e0 : s₁.heap = h0 := by rw [← hh, Bd.state]; rfl
 have N0 := Fr.nil n0
 have kp0 : Keep h0 h0 [] := Keep.refl _ _
 have G0 : ∀ t, Steps p.tables e below (s₁.setTop (mkF m 0 #[rv r0, rv r1, rv r2] [])) t → Steps p.tables e below (s₁.setTop (entryFrame m #[(.ref r0), (.ref r1), (.ref r2)] 3)) t := fun t k => castTop (ef_rmCl0 m r0 r1 r2) k
 obtain ⟨cq1, q1, q1'⟩ := El.cell
 obtain ⟨_, _, ⟨T1, L1, k1, n1⟩, -, X1, ⟨Lc1, hQ1, l1, y1, z1⟩, st1⟩ := X0.privateBack hx (y := (⟨"com/example/ratabl/ratabl/engine/Lock", "firstOpen", "(Ljava/time/LocalDate;)Ljava/util/Optional;"⟩ : MethodName)) hown (mvT hZ (hq hw 171 rfl)) (mvT hZ (hq hw 172 rfl)) (own_selp (mvT hZ (hq hw 83 rfl)) (mvT hZ (hq hw 172 rfl)) (mvP hZ (hq hw 173 rfl)) (by decide)) (Cond.privateMethod_at (mvP hZ (hq hw 173 rfl) (args := #[]))) (mvT hZ (hq hw 174 rfl)) (by decide) (backOf (W := 0) (rmFO0 l Z a0 hw [] r0 r1 eN eA eC ps crr ads sw oe efd rfd eyr ryr bt bf ic ksw  h0 n0 Z0 O0 El Fm_ SS ) hZ (hq hw 174 rfl) (hq hw 80 rfl) (by decide) (by decide)) (g := (mkF m 2 #[rv r0, rv r1, rv r2] [(.ref r1), (.ref r0)])) rfl (by rw [hml]; rfl) (Steps.refl _) (a := r0) (by rw [e0]; exact q1) q1' (argsL := [(.ref r1)]) (rest := []) (lenOf pd_22 rfl) rfl (by show 2 * 0 + _ ≤ _; exact Nat.le_of_eq rfl) (hb hby d22_2) (fun _ _ => ⟨rfl, e0, (by decide : 0 + 0 ≤ _), (by decide : 0 + 0 ≤ _)⟩)
 dsimp only [Pt.U, Pt.locs, Pt.cells, Pt.slots] at X1 l1 y1 z1 st1 hQ1
 subst l1 y1 z1
 obtain ⟨rfl, N1q, eh1⟩ := hQ1
 have N1 := Fr.app N0 N1q
 obtain ⟨_, _, ⟨T2, L2, k2, n2⟩, -, X2, ⟨Lc2, hQ2, l2, y2, z2⟩, st2⟩ := Jvm.LawKit.callS X1 hx (y := (⟨"java/util/Objects", "requireNonNull", "(Ljava/lang/Object;)Ljava/lang/Object;"⟩ : MethodName)) hown (mvT hZ (hq hw 188 rfl)) (mvT hZ (hq hw 189 rfl)) (mvT hZ (hq hw 48 rfl)) (mvT hZ (hq hw 190 rfl)) (by decide) (backOf (W := 2) (rm25 l Z a0 hw [] r2  h0 n0 Z0  ) hZ (hq hw 190 rfl) (hq hw 48 rfl) (by decide) (by decide)) (g := (mkF m 7 #[rv r0, rv r1, rv r2] [(.ref r2), (.ref r2), (.ref oe)])) rfl (by rw [hml]; rfl) (argsL := [(.ref r2)]) (rest := [(.ref r2), (.ref oe)]) (lenOf pd_9 rfl) rfl (by show 2 * 0 + _ ≤ _; exact Nat.le_of_eq rfl) (hb hby d22_7) (fun _ _ => ⟨rfl, eh1, (by decide : 0 + 0 ≤ _), (by decide : 0 + 0 ≤ _)⟩)
 dsimp only [Pt.U, Pt.locs, Pt.cells, Pt.slots] at X2 l2 y2 z2 st2 hQ2
 subst l2 y2 z2
 obtain ⟨rfl, N2q, eh2⟩ := hQ2
 have N2 := Fr.app N1 N2q
 obtain ⟨T3, h3, cK3, X3, e3, E3, LM3, st3⟩ := own_indy X2 hx hZ hw Bd.named hml hby eh2 r2 oe #[rv r0, rv r1, rv r2] rfl (by decide) (by decide : 0 + 1 ≤ _) (by decide : 0 + 1 ≤ _)
 obtain ⟨b3, g3⟩ : ∃ z, z = h0.size := ⟨_, rfl⟩
 rw [← g3] at LM3 st3
 have g_b3 : n0 ≤ b3 := Nat.le_trans Z0 (Nat.le_of_eq g3.symm)
 have sz_b3 : h0.size ≤ b3 := Nat.le_trans kp0.1 (Nat.le_of_eq g3.symm)
 have ne_r0_b3 : r0 ≠ b3 := Nat.ne_of_lt (Nat.lt_of_lt_of_le El.lt (Nat.le_of_eq g3.symm))
 have ne_r2_b3 : r2 ≠ b3 := Nat.ne_of_lt (Nat.lt_of_lt_of_le ExA.lt (Nat.le_of_eq g3.symm))
 have fa4 := O0.ext E3
 have fa5 := El.ext E3
 have fa6 := Fm_.ext E3
 have fa7 := ExA.ext E3
 have fa8 := FyA.ext E3
 have fa9 := FmA.ext E3
 have fa10 := FdA.ext E3
 have z11 : n0 ≤ h3.size := Nat.le_trans Z0 E3.1
 have kp12 : Keep h0 h3 [] := kp0.ext E3
 obtain ⟨cq13, kq13, q13a, q13b, q13c⟩ := isOf hZ e3 (SS.2.2.2.2.2.2.2.2.2.2.2.2.2.2.2.2.2.2.2.2.1.ext fa4.2)
 obtain ⟨_, _, ⟨T13, L13, k13, n13⟩, -, X13, ⟨Lc13, hQ13, l13, y13, z13⟩, st13⟩ := X3.virtualBack hx (y := (⟨"java/util/Optional", "map", "(Ljava/util/function/Function;)Ljava/util/Optional;"⟩ : MethodName)) (z := (⟨"java/util/Optional", "map", "(Ljava/util/function/Function;)Ljava/util/Optional;"⟩ : MethodName)) hown (mvT hZ (hq hw 194 rfl)) (mvT hZ (hq hw 195 rfl)) (notFace_of_selects (args := #[]) (mvT hZ (hq hw 197 rfl))) (mvT hZ (hq hw 197 rfl)) (mvT hZ (hq hw 196 rfl)) (by decide) (backOf (W := 0) (rmMap0 l Z a0 hw [] oe b3 eN eA eC ps crr ads sw oe efd rfd eyr ryr bt bf ic ksw  h3 n0 z11 fa4 (SS.2.2.2.2.2.2.2.2.2.2.2.2.2.2.2.2.2.2.2.2.1.ext fa4.2) (SS.2.2.2.2.2.2.2.2.2.2.2.2.2.2.2.2.2.2.2.2.2.1.ext fa4.2) SS ) hZ (hq hw 198 rfl) (hq hw 7 rfl) (by decide) (by decide)) q13a q13c (g := (mkF m 16 #[rv r0, rv r1, rv r2] [(.ref b3), (.ref oe)])) rfl (by rw [hml]; rfl) (Steps.refl _) (argsL := [(.ref b3)]) (rest := []) (lenOf pd_23 rfl) rfl (by show 2 * 0 + _ ≤ _; exact Nat.le_of_eq rfl) (hb hby d22_16) (fun _ _ => ⟨rfl, e3, (by decide : 1 + 0 ≤ _), (by decide : 1 + 0 ≤ _)⟩)
 dsimp only [Pt.U, Pt.locs, Pt.cells, Pt.slots] at X13 l13 y13 z13 st13 hQ13
 subst l13 y13 z13
 obtain ⟨rfl, N13q, eh13⟩ := hQ13
 have N13 := Fr.app N2 N13q
 obtain ⟨_, _, ⟨T14, L14, k14, n14⟩, -, X14, ⟨Lc14, hQ14, l14, y14, z14⟩, st14⟩ := Jvm.LawKit.callS X13 hx (y := (⟨"java/lang/Boolean", "valueOf", "(Z)Ljava/lang/Boolean;"⟩ : MethodName)) hown (mvT hZ (hq hw 208 rfl)) (mvT hZ (hq hw 209 rfl)) (mvT hZ (hq hw 210 rfl)) (mvT hZ (hq hw 211 rfl)) (by decide) (backOf (W := 1) (rm28 l Z a0 hw [] (0 : Int32) eN eA eC ps crr ads sw oe efd rfd eyr ryr bt bf ic ksw  h3 n0 z11 fa4  SS ) hZ (hq hw 211 rfl) (hq hw 210 rfl) (by decide) (by decide)) (g := (mkF m 20 #[rv r0, rv r1, rv r2] [(.int (0 : Int32)), (.ref oe)])) rfl (by rw [hml]; rfl) (argsL := [(.int (0 : Int32))]) (rest := [(.ref oe)]) (lenOf pd_21 rfl) rfl (by show 2 * 0 + _ ≤ _; exact Nat.le_of_eq rfl) (hb hby d22_20) (fun _ _ => ⟨rfl, eh13, (by decide : 1 + 0 ≤ _), (by decide : 1 + 0 ≤ _)⟩)
 dsimp only [Pt.U, Pt.locs, Pt.cells, Pt.slots] at X14 l14 y14 z14 st14 hQ14
 subst l14 y14 z14
 obtain ⟨hvo14, N14q, eh14⟩ := hQ14
 rw [own_bo0] at hvo14
 subst hvo14
 have N14 := Fr.app N13 N14q
 obtain ⟨cq15, kq15, q15a, q15b, q15c⟩ := isOf hZ eh14 (SS.2.2.2.2.2.2.2.2.2.2.2.2.2.2.2.2.2.2.2.2.1.ext fa4.2)
 obtain ⟨_, _, ⟨T15, L15, k15, n15⟩, -, X15, ⟨Lc15, hQ15, l15, y15, z15⟩, st15⟩ := X14.virtualBack hx (y := (⟨"java/util/Optional", "orElse", "(Ljava/lang/Object;)Ljava/lang/Object;"⟩ : MethodName)) (z := (⟨"java/util/Optional", "orElse", "(Ljava/lang/Object;)Ljava/lang/Object;"⟩ : MethodName)) hown (mvT hZ (hq hw 213 rfl)) (mvT hZ (hq hw 214 rfl)) (notFace_of_selects (args := #[]) (mvT hZ (hq hw 216 rfl))) (mvT hZ (hq hw 216 rfl)) (mvT hZ (hq hw 215 rfl)) (by decide) (backOf (W := 0) (rmOorElse1 l Z a0 hw [] oe bf  h3 n0 z11 (SS.2.2.2.2.2.2.2.2.2.2.2.2.2.2.2.2.2.2.2.2.2.1.ext fa4.2) ) hZ (hq hw 217 rfl) (hq hw 7 rfl) (by decide) (by decide)) q15a q15c (g := (mkF m 23 #[rv r0, rv r1, rv r2] [(.ref bf), (.ref oe)])) rfl (by rw [hml]; rfl) (Steps.refl _) (argsL := [(.ref bf)]) (rest := []) (lenOf pd_9 rfl) rfl (by show 2 * 0 + _ ≤ _; exact Nat.le_of_eq rfl) (hb hby d22_23) (fun _ _ => ⟨rfl, eh14, (by decide : 1 + 0 ≤ _), (by decide : 1 + 0 ≤ _)⟩)
 dsimp only [Pt.U, Pt.locs, Pt.cells, Pt.slots] at X15 l15 y15 z15 st15 hQ15
 subst l15 y15 z15
 obtain ⟨rfl, N15q, eh15⟩ := hQ15
 have N15 := Fr.app N14 N15q
 obtain ⟨T16, X16, e16, st16⟩ := castY X15 hx hZ hown (hq hw 218 rfl) eh15 (Ins.self (SS.2.2.2.2.2.2.2.2.2.2.2.2.2.2.2.2.2.2.2.2.2.2.2.2.2.2.2.2.2.2.2.2.2.2.1.ext fa4.2)) (g := (mkF m 26 #[rv r0, rv r1, rv r2] [(.ref bf)])) rfl rfl (hb hby d22_26)
 obtain ⟨cq17, kq17, q17a, q17b, q17c⟩ := isOf hZ e16 (SS.2.2.2.2.2.2.2.2.2.2.2.2.2.2.2.2.2.2.2.2.2.2.2.2.2.2.2.2.2.2.2.2.2.2.1.ext fa4.2)
 obtain ⟨_, _, ⟨T17, L17, k17, n17⟩, -, X17, ⟨Lc17, hQ17, l17, y17, z17⟩, st17⟩ := X16.virtualBack hx (y := (⟨"java/lang/Boolean", "booleanValue", "()Z"⟩ : MethodName)) (z := (⟨"java/lang/Boolean", "booleanValue", "()Z"⟩ : MethodName)) hown (mvT hZ (hq hw 220 rfl)) (mvT hZ (hq hw 221 rfl)) (notFace_of_selects (args := #[]) (mvT hZ (hq hw 223 rfl))) (mvT hZ (hq hw 223 rfl)) (mvT hZ (hq hw 222 rfl)) (by decide) (backOf (W := 0) (rm30 l Z a0 hw [] bf (0 : Int32) h3 n0 z11 (SS.2.2.2.2.2.2.2.2.2.2.2.2.2.2.2.2.2.2.2.2.2.2.2.2.2.2.2.2.2.2.2.2.2.2.2.1.ext fa4.2) (by decide)) hZ (hq hw 224 rfl) (hq hw 210 rfl) (by decide) (by decide)) q17a q17c (g := (mkF m 29 #[rv r0, rv r1, rv r2] [(.ref bf)])) rfl (by rw [hml]; rfl) (Steps.refl _) (argsL := []) (rest := []) (lenOf pd_6 rfl) rfl (by show 2 * 0 + _ ≤ _; exact Nat.le_of_eq rfl) (hb hby d22_29) (fun _ _ => ⟨rfl, e16, (by decide : 1 + 0 ≤ _), (by decide : 1 + 0 ≤ _)⟩)
 dsimp only [Pt.U, Pt.locs, Pt.cells, Pt.slots] at X17 l17 y17 z17 st17 hQ17
 subst l17 y17 z17
 obtain ⟨rfl, N17q, eh17⟩ := hQ17
 have N17 := Fr.app N15 N17q
 obtain ⟨fs, hr, hrun, hended, hW, hsame⟩ := X17.leave (v := some (.int (0 : Int32))) (fun h => by rw [Bd.returns] at h; cases h)
 refine ⟨_, _, G0 _ ?_, hrun, hended, _, _, rfl, ?_, ⟨_, rfl⟩, hW, hsame.mono (by decide) (by decide)⟩
 ·skip
  refine XS.aloadN X0.here hx rfl (hb hby d22_0) rfl rfl ?_
  refine XS.aloadN X0.here hx rfl (hb hby d22_1) rfl rfl ?_
  refine st1.trans ?_
  refine XS.aloadN X1.here hx rfl (hb hby d22_5) rfl rfl ?_
  refine XS.dup X1.here hx rfl (hb hby d22_6) rfl rfl ?_
  refine st2 _ ?_
  refine XS.pop X2.here hx rfl (hb hby d22_10) rfl rfl ?_
  show Steps p.tables e below (T2.setTop (mkF m 11 #[rv r0, rv r1, rv r2] [(.ref r2), (.ref oe)])) _
  refine st3 _ ?_
  refine st13.trans ?_
  refine XS.iconst X13.here hx rfl (hb hby d22_19) ?_
  refine st14 _ ?_
  refine st15.trans ?_
  refine st16 _ ?_
  refine st17.trans ?_
  exact retN X17 hx (t := .boolean) Bd.returns (by simp) (hb hby d22_32) hr
 ·show QCl0 Z r0 r1 r2 eN eA eC ps crr ads sw oe efd rfd eyr ryr bt bf ic ksw yA mA dA zA h0 n0 _ T17.heap _
  rw [eh17]
  exact ⟨rfl, N17, kp12⟩
def QCl1 (Z : State) (r0 : Addr) (r1 : Addr) (r2 : Addr) (eN eA eC ps crr ads sw oe efd rfd eyr ryr bt bf ic : Addr) (ksw : ClassId) (yA mA dA yB mB dB : Int32) (zA zB : Int) (h0 : Heap) (n0 : Nat) (v : Option Value) (h : Heap) (L : List Loc) : Prop := v = some (.int (own_lt (zA) (zB))) ∧ Fr n0 L ∧ Keep h0 h []
theorem ef_rmCl1 (m : MethodId) (x0 : Addr) (x1 : Addr) (x2 : Addr) : entryFrame m #[(.ref x0), (.ref x1), (.ref x2)] 3 = mkF m 0 #[.val (.ref x0), .val (.ref x1), .val (.ref x2)] [] := by first | (simp [entryFrame, mkF, argsToLocals, Value.category]; done) | rfl
set_option maxRecDepth 65536 in
set_option maxHeartbeats 40000000 in
theorem rmCl1 (l : Launch) (Z : State) (a0 : Array Value) (hw : ∀ d ∈ tables_1, d.before a0 Z = true) (ws : List Jvm.Cond) (r0 : Addr) (r1 : Addr) (r2 : Addr) (eN eA eC ps crr ads sw oe efd rfd eyr ryr bt bf ic : Addr) (ksw : ClassId) (yA mA dA yB mB dB : Int32) (zA zB : Int) (h0 : Heap) (n0 : Nat) (Z0 : n0 ≤ h0.size) (O0 : Old Z n0 h0) (El : Exa Z h0 r0 "com/example/ratabl/ratabl/engine/Lock") (Fm_ : Fld Z h0 r0 "com/example/ratabl/ratabl/engine/Lock" "method" "Lcom/example/ratabl/ratabl/model/LockDateMethod;" (.ref eA)) (ExA : Exa Z h0 r2 "java/time/LocalDate") (FyA : Fld Z h0 r2 "java/time/LocalDate" "year" "I" (.int yA)) (FmA : Fld Z h0 r2 "java/time/LocalDate" "month" "S" (.int mA)) (FdA : Fld Z h0 r2 "java/time/LocalDate" "day" "S" (.int dA)) (ExB : Exa Z h0 r1 "java/time/LocalDate") (FyB : Fld Z h0 r1 "java/time/LocalDate" "year" "I" (.int yB)) (FmB : Fld Z h0 r1 "java/time/LocalDate" "month" "S" (.int mB)) (FdB : Fld Z h0 r1 "java/time/LocalDate" "day" "S" (.int dB)) (SS : Stw Z eN eA eC ps crr ads sw oe efd rfd eyr ryr bt bf ic ksw) (DA : own_dt yA mA dA zA) (DB : own_dt yB mB dB zB) :
  MetFree l (⟨"com/example/ratabl/ratabl/engine/Lock", "closes", "(Ljava/time/LocalDate;Ljava/time/LocalDate;)Z"⟩ : MethodName) (head1 (Jvm.Cond.code (⟨"com/example/ratabl/ratabl/engine/Lock", "closes", "(Ljava/time/LocalDate;Ljava/time/LocalDate;)Z"⟩ : MethodName) prog_38_method_4_code 3 (some .boolean) :: ws) ({ frames := 4, cells := 3, slots := 3, locals := 3074 } : Room)) (fun a U => a = #[(.ref r0), (.ref r1), (.ref r2)] ∧ Z.Warmed39 U.vm ∧ U.heap = h0) (fun _ _ _ _ _ => True) (fun _ U o U' => ∃ v L, o = .returned v ∧ QCl1 Z r0 r1 r2 eN eA eC ps crr ads sw oe efd rfd eyr ryr bt bf ic ksw yA mA dA yB mB dB zA zB h0 n0 v U'.heap L ∧ FrameEnd U o U' L ({ frames := 4, cells := 3, slots := 3, locals := 3074 } : Room).cells ({ frames := 4, cells := 3, slots := 3, locals := 3074 } : Room).slots) := by
 refine MetFree.of_bodySF (plainFor_of_name pnc_com_example_ratabl_ratabl_engine_Lock) hisR ?_
 intro p e s m args below meth c s₁ Bd hml0 hP hK
 obtain ⟨rfl, hZ, hh⟩ := hP
 have hx := Bd.exec
 have hby := Bd.bytes
 have hml : c.maxLocals = 3 := hml0
 have hown : s.vm.findClass "com/example/ratabl/ratabl/engine/Lock" = some m.cls := findClass_of_methodNamed Bd.named
 have hnm := (name_of_methodNamed Bd.named Bd.method).1
 have X0 : Stand p l e ({ frames := 4, cells := 3, slots := 3, locals := 3074 } : Room) s m #[(.ref r0), (.ref r1), (.ref r2)] below meth c s₁ [] 0 0 := Stand.of_body Bd
 have e0 : s₁.heap = h0 := by rw [← hh, Bd.state]; rfl
 have N0 := Fr.nil n0
 have kp0 : Keep h0 h0 [] := Keep.refl _ _
 have G0 : ∀ t, Steps p.tables e below (s₁.setTop (mkF m 0 #[rv r0, rv r1, rv r2] [])) t → Steps p.tables e below (s₁.setTop (entryFrame m #[(.ref r0), (.ref r1), (.ref r2)] 3)) t := fun t k => castTop (ef_rmCl1 m r0 r1 r2) k
 obtain ⟨cq1, q1, q1'⟩ := El.cell
 obtain ⟨_, _, ⟨T1, L1, k1, n1⟩, -, X1, ⟨Lc1, hQ1, l1, y1, z1⟩, st1⟩ := X0.privateBack hx (y := (⟨"com/example/ratabl/ratabl/engine/Lock", "firstOpen", "(Ljava/time/LocalDate;)Ljava/util/Optional;"⟩ : MethodName)) hown (mvT hZ (hq hw 171 rfl)) (mvT hZ (hq hw 172 rfl)) (own_selp (mvT hZ (hq hw 83 rfl)) (mvT hZ (hq hw 172 rfl)) (mvP hZ (hq hw 173 rfl)) (by decide)) (Cond.privateMethod_at (mvP hZ (hq hw 173 rfl) (args := #[]))) (mvT hZ (hq hw 174 rfl)) (by decide) (backOf (W := 0) (rmFO1 l Z a0 hw [] r0 r1 eN eA eC ps crr ads sw oe efd rfd eyr ryr bt bf ic ksw  h0 n0 Z0 O0 El Fm_ SS ) hZ (hq hw 174 rfl) (hq hw 80 rfl) (by decide) (by decide)) (g := (mkF m 2 #[rv r0, rv r1, rv r2] [(.ref r1), (.ref r0)])) rfl (by rw [hml]; rfl) (Steps.refl _) (a := r0) (by rw [e0]; exact q1) q1' (argsL := [(.ref r1)]) (rest := []) (lenOf pd_22 rfl) rfl (by show 2 * 0 + _ ≤ _; exact Nat.le_of_eq rfl) (hb hby d22_2) (fun _ _ => ⟨rfl, e0, (by decide : 0 + 1 ≤ _), (by decide : 0 + 1 ≤ _)⟩)
 dsimp only [Pt.U, Pt.locs, Pt.cells, Pt.slots] at X1 l1 y1 z1 st1 hQ1
 subst l1 y1 z1
 obtain ⟨bo1, rfl, N1q, K1, A1, Gv1⟩ := hQ1
 have N1 := Fr.app N0 N1q
 have fa2 := O0.keep K1 all0
 have fa3 := El.keep K1
 have fa4 := Fm_.keep K1 nin0
 have fa5 := ExA.keep K1
 have fa6 := FyA.keep K1 nin0
 have fa7 := FmA.keep K1 nin0
 have fa8 := FdA.keep K1 nin0
 have fa9 := ExB.keep K1
 have fa10 := FyB.keep K1 nin0
 have fa11 := FmB.keep K1 nin0
 have fa12 := FdB.keep K1 nin0
 have z13 : n0 ≤ T1.heap.size := Nat.le_trans Z0 K1.1
 have kp14 : Keep h0 T1.heap [] := kp0.trans K1 all0
 obtain ⟨_, _, ⟨T15, L15, k15, n15⟩, -, X15, ⟨Lc15, hQ15, l15, y15, z15⟩, st15⟩ := Jvm.LawKit.callS X1 hx (y := (⟨"java/util/Objects", "requireNonNull", "(Ljava/lang/Object;)Ljava/lang/Object;"⟩ : MethodName)) hown (mvT hZ (hq hw 188 rfl)) (mvT hZ (hq hw 189 rfl)) (mvT hZ (hq hw 48 rfl)) (mvT hZ (hq hw 190 rfl)) (by decide) (backOf (W := 2) (rm25 l Z a0 hw [] r2  T1.heap n0 z13  ) hZ (hq hw 190 rfl) (hq hw 48 rfl) (by decide) (by decide)) (g := (mkF m 7 #[rv r0, rv r1, rv r2] [(.ref r2), (.ref r2), (.ref bo1)])) rfl (by rw [hml]; rfl) (argsL := [(.ref r2)]) (rest := [(.ref r2), (.ref bo1)]) (lenOf pd_9 rfl) rfl (by show 2 * 0 + _ ≤ _; exact Nat.le_of_eq rfl) (hb hby d22_7) (fun _ _ => ⟨rfl, rfl, (by decide : 1 + 0 ≤ _), (by decide : 1 + 0 ≤ _)⟩)
 dsimp only [Pt.U, Pt.locs, Pt.cells, Pt.slots] at X15 l15 y15 z15 st15 hQ15
 subst l15 y15 z15
 obtain ⟨rfl, N15q, eh15⟩ := hQ15
 have N15 := Fr.app N1 N15q
 obtain ⟨T16, h16, cK16, X16, e16, E16, LM16, st16⟩ := own_indy X15 hx hZ hw Bd.named hml hby eh15 r2 bo1 #[rv r0, rv r1, rv r2] rfl (by decide) (by decide : 1 + 1 ≤ _) (by decide : 1 + 1 ≤ _)
 obtain ⟨b16, g16⟩ : ∃ z, z = T1.heap.size := ⟨_, rfl⟩
 rw [← g16] at LM16 st16
 have g_b16 : n0 ≤ b16 := Nat.le_trans z13 (Nat.le_of_eq g16.symm)
 have sz_b16 : h0.size ≤ b16 := Nat.le_trans kp14.1 (Nat.le_of_eq g16.symm)
 have ne_r0_b16 : r0 ≠ b16 := Nat.ne_of_lt (Nat.lt_of_lt_of_le fa3.lt (Nat.le_of_eq g16.symm))
 have ne_r2_b16 : r2 ≠ b16 := Nat.ne_of_lt (Nat.lt_of_lt_of_le fa5.lt (Nat.le_of_eq g16.symm))
 have ne_r1_b16 : r1 ≠ b16 := Nat.ne_of_lt (Nat.lt_of_lt_of_le fa9.lt (Nat.le_of_eq g16.symm))
 have ne_bo1_b16 : bo1 ≠ b16 := Nat.ne_of_lt (Nat.lt_of_lt_of_le A1.lt (Nat.le_of_eq g16.symm))
 have fa17 := fa2.ext E16
 have fa18 := fa3.ext E16
 have fa19 := fa4.ext E16
 have fa20 := fa5.ext E16
 have fa21 := fa6.ext E16
 have fa22 := fa7.ext E16
 have fa23 := fa8.ext E16
 have fa24 := fa9.ext E16
 have fa25 := fa10.ext E16
 have fa26 := fa11.ext E16
 have fa27 := fa12.ext E16
 have fa28 := A1.ext E16
 have fa29 := Gv1.ext E16
 have z30 : n0 ≤ h16.size := Nat.le_trans z13 E16.1
 have kp31 : Keep h0 h16 [] := kp14.ext E16
 obtain ⟨cq32, kq32, q32a, q32b, q32c⟩ := isOf hZ e16 fa28
 obtain ⟨_, _, ⟨T32, L32, k32, n32⟩, -, X32, ⟨Lc32, hQ32, l32, y32, z32⟩, st32⟩ := X16.virtualBack hx (y := (⟨"java/util/Optional", "map", "(Ljava/util/function/Function;)Ljava/util/Optional;"⟩ : MethodName)) (z := (⟨"java/util/Optional", "map", "(Ljava/util/function/Function;)Ljava/util/Optional;"⟩ : MethodName)) hown (mvT hZ (hq hw 194 rfl)) (mvT hZ (hq hw 195 rfl)) (notFace_of_selects (args := #[]) (mvT hZ (hq hw 197 rfl))) (mvT hZ (hq hw 197 rfl)) (mvT hZ (hq hw 196 rfl)) (by decide) (backOf (W := 0) (rmMap1 l Z a0 hw [] bo1 b16 eN eA eC ps crr ads sw oe efd rfd eyr ryr bt bf ic ksw r1 r2 yA mA dA yB mB dB (zA) (zB) cK16 h16 n0 z30 fa17 fa28 fa29 fa20 fa21 fa22 fa23 fa24 fa25 fa26 fa27 SS LM16 DA DB) hZ (hq hw 198 rfl) (hq hw 7 rfl) (by decide) (by decide)) q32a q32c (g := (mkF m 16 #[rv r0, rv r1, rv r2] [(.ref b16), (.ref bo1)])) rfl (by rw [hml]; rfl) (Steps.refl _) (argsL := [(.ref b16)]) (rest := []) (lenOf pd_23 rfl) rfl (by show 2 * 0 + _ ≤ _; exact Nat.le_of_eq rfl) (hb hby d22_16) (fun _ _ => ⟨rfl, e16, (by decide : 2 + 1 ≤ _), (by decide : 2 + 1 ≤ _)⟩)
 dsimp only [Pt.U, Pt.locs, Pt.cells, Pt.slots] at X32 l32 y32 z32 st32 hQ32
 subst l32 y32 z32
 obtain ⟨bo32, rfl, N32q, K32, A32, Gv32⟩ := hQ32
 have N32 := Fr.app N15 N32q
 have fa33 := fa17.keep K32 all0
 have fa34 := fa18.keep K32
 have fa35 := fa19.keep K32 nin0
 have fa36 := fa20.keep K32
 have fa37 := fa21.keep K32 nin0
 have fa38 := fa22.keep K32 nin0
 have fa39 := fa23.keep K32 nin0
 have fa40 := fa24.keep K32
 have fa41 := fa25.keep K32 nin0
 have fa42 := fa26.keep K32 nin0
 have fa43 := fa27.keep K32 nin0
 have fa44 := fa28.keep K32
 have fa45 := fa29.keep K32 nin0
 have z46 : n0 ≤ T32.heap.size := Nat.le_trans z30 K32.1
 have kp47 : Keep h0 T32.heap [] := kp31.trans K32 all0
 obtain ⟨_, _, ⟨T48, L48, k48, n48⟩, -, X48, ⟨Lc48, hQ48, l48, y48, z48⟩, st48⟩ := Jvm.LawKit.callS X32 hx (y := (⟨"java/lang/Boolean", "valueOf", "(Z)Ljava/lang/Boolean;"⟩ : MethodName)) hown (mvT hZ (hq hw 208 rfl)) (mvT hZ (hq hw 209 rfl)) (mvT hZ (hq hw 210 rfl)) (mvT hZ (hq hw 211 rfl)) (by decide) (backOf (W := 1) (rm28 l Z a0 hw [] (0 : Int32) eN eA eC ps crr ads sw oe efd rfd eyr ryr bt bf ic ksw  T32.heap n0 z46 fa33  SS ) hZ (hq hw 211 rfl) (hq hw 210 rfl) (by decide) (by decide)) (g := (mkF m 20 #[rv r0, rv r1, rv r2] [(.int (0 : Int32)), (.ref bo32)])) rfl (by rw [hml]; rfl) (argsL := [(.int (0 : Int32))]) (rest := [(.ref bo32)]) (lenOf pd_21 rfl) rfl (by show 2 * 0 + _ ≤ _; exact Nat.le_of_eq rfl) (hb hby d22_20) (fun _ _ => ⟨rfl, rfl, (by decide : 3 + 0 ≤ _), (by decide : 3 + 0 ≤ _)⟩)
 dsimp only [Pt.U, Pt.locs, Pt.cells, Pt.slots] at X48 l48 y48 z48 st48 hQ48
 subst l48 y48 z48
 obtain ⟨hvo48, N48q, eh48⟩ := hQ48
 rw [own_bo0] at hvo48
 subst hvo48
 have N48 := Fr.app N32 N48q
 obtain ⟨cq49, kq49, q49a, q49b, q49c⟩ := isOf hZ eh48 A32
 obtain ⟨_, _, ⟨T49, L49, k49, n49⟩, -, X49, ⟨Lc49, hQ49, l49, y49, z49⟩, st49⟩ := X48.virtualBack hx (y := (⟨"java/util/Optional", "orElse", "(Ljava/lang/Object;)Ljava/lang/Object;"⟩ : MethodName)) (z := (⟨"java/util/Optional", "orElse", "(Ljava/lang/Object;)Ljava/lang/Object;"⟩ : MethodName)) hown (mvT hZ (hq hw 213 rfl)) (mvT hZ (hq hw 214 rfl)) (notFace_of_selects (args := #[]) (mvT hZ (hq hw 216 rfl))) (mvT hZ (hq hw 216 rfl)) (mvT hZ (hq hw 215 rfl)) (by decide) (backOf (W := 0) (rmOorElse0 l Z a0 hw [] bo32 bf (own_bo (own_lt (zA) (zB)) bt bf) T32.heap n0 z46 Gv32 ) hZ (hq hw 217 rfl) (hq hw 7 rfl) (by decide) (by decide)) q49a q49c (g := (mkF m 23 #[rv r0, rv r1, rv r2] [(.ref bf), (.ref bo32)])) rfl (by rw [hml]; rfl) (Steps.refl _) (argsL := [(.ref bf)]) (rest := []) (lenOf pd_9 rfl) rfl (by show 2 * 0 + _ ≤ _; exact Nat.le_of_eq rfl) (hb hby d22_23) (fun _ _ => ⟨rfl, eh48, (by decide : 3 + 0 ≤ _), (by decide : 3 + 0 ≤ _)⟩)
 dsimp only [Pt.U, Pt.locs, Pt.cells, Pt.slots] at X49 l49 y49 z49 st49 hQ49
 subst l49 y49 z49
 obtain ⟨rfl, N49q, eh49⟩ := hQ49
 have N49 := Fr.app N48 N49q
 have BE := own_boE SS (cb := (own_lt (zA) (zB))) (own_lt01 _ _)
 obtain ⟨T50, X50, e50, st50⟩ := castY X49 hx hZ hown (hq hw 218 rfl) eh49 (Ins.self (BE.1.ext fa33.2)) (g := (mkF m 26 #[rv r0, rv r1, rv r2] [(.ref (own_bo (own_lt (zA) (zB)) bt bf))])) rfl rfl (hb hby d22_26)
 obtain ⟨cq51, kq51, q51a, q51b, q51c⟩ := isOf hZ e50 (BE.1.ext fa33.2)
 obtain ⟨_, _, ⟨T51, L51, k51, n51⟩, -, X51, ⟨Lc51, hQ51, l51, y51, z51⟩, st51⟩ := X50.virtualBack hx (y := (⟨"java/lang/Boolean", "booleanValue", "()Z"⟩ : MethodName)) (z := (⟨"java/lang/Boolean", "booleanValue", "()Z"⟩ : MethodName)) hown (mvT hZ (hq hw 220 rfl)) (mvT hZ (hq hw 221 rfl)) (notFace_of_selects (args := #[]) (mvT hZ (hq hw 223 rfl))) (mvT hZ (hq hw 223 rfl)) (mvT hZ (hq hw 222 rfl)) (by decide) (backOf (W := 0) (rm30 l Z a0 hw [] (own_bo (own_lt (zA) (zB)) bt bf) (own_lt (zA) (zB)) T32.heap n0 z46 (BE.2.ext fa33.2) (own_lt01 _ _)) hZ (hq hw 224 rfl) (hq hw 210 rfl) (by decide) (by decide)) q51a q51c (g := (mkF m 29 #[rv r0, rv r1, rv r2] [(.ref (own_bo (own_lt (zA) (zB)) bt bf))])) rfl (by rw [hml]; rfl) (Steps.refl _) (argsL := []) (rest := []) (lenOf pd_6 rfl) rfl (by show 2 * 0 + _ ≤ _; exact Nat.le_of_eq rfl) (hb hby d22_29) (fun _ _ => ⟨rfl, e50, (by decide : 3 + 0 ≤ _), (by decide : 3 + 0 ≤ _)⟩)
 dsimp only [Pt.U, Pt.locs, Pt.cells, Pt.slots] at X51 l51 y51 z51 st51 hQ51
 subst l51 y51 z51
 obtain ⟨rfl, N51q, eh51⟩ := hQ51
 have N51 := Fr.app N49 N51q
 obtain ⟨fs, hr, hrun, hended, hW, hsame⟩ := X51.leave (v := some (.int (nar .boolean (own_lt (zA) (zB))))) (fun h => by rw [Bd.returns] at h; cases h)
 refine ⟨_, _, G0 _ ?_, hrun, hended, _, _, rfl, ?_, ⟨_, rfl⟩, hW, hsame.mono (by decide) (by decide)⟩
 ·skip
  refine XS.aloadN X0.here hx rfl (hb hby d22_0) rfl rfl ?_
  refine XS.aloadN X0.here hx rfl (hb hby d22_1) rfl rfl ?_
  refine st1.trans ?_
  refine XS.aloadN X1.here hx rfl (hb hby d22_5) rfl rfl ?_
  refine XS.dup X1.here hx rfl (hb hby d22_6) rfl rfl ?_
  refine st15 _ ?_
  refine XS.pop X15.here hx rfl (hb hby d22_10) rfl rfl ?_
  show Steps p.tables e below (T15.setTop (mkF m 11 #[rv r0, rv r1, rv r2] [(.ref r2), (.ref bo1)])) _
  refine st16 _ ?_
  refine st32.trans ?_
  refine XS.iconst X32.here hx rfl (hb hby d22_19) ?_
  refine st48 _ ?_
  refine st49.trans ?_
  refine st50 _ ?_
  refine st51.trans ?_
  exact retN X51 hx (t := .boolean) Bd.returns (by simp) (hb hby d22_32) hr
 ·show QCl1 Z r0 r1 r2 eN eA eC ps crr ads sw oe efd rfd eyr ryr bt bf ic ksw yA mA dA yB mB dB zA zB h0 n0 _ T51.heap _
  rw [eh51]
  exact ⟨by rw [own_nz (own_lt01 _ _)], N51, kp47⟩
def QCl2 (Z : State) (r0 : Addr) (r1 : Addr) (r2 : Addr) (eN eA eC ps crr ads sw oe efd rfd eyr ryr bt bf ic : Addr) (ksw : ClassId) (yA mA dA : Int32) (zA : Int) (xo xl : Addr) (yC mC dC : Int32) (zC : Int) (h0 : Heap) (n0 : Nat) (v : Option Value) (h : Heap) (L : List Loc) : Prop := v = some (.int (own_lt (zA) (zC + 1))) ∧ Fr n0 L ∧ Keep h0 h []
theorem ef_rmCl2 (m : MethodId) (x0 : Addr) (x1 : Addr) (x2 : Addr) : entryFrame m #[(.ref x0), (.ref x1), (.ref x2)] 3 = mkF m 0 #[.val (.ref x0), .val (.ref x1), .val (.ref x2)] [] := by first | (simp [entryFrame, mkF, argsToLocals, Value.category]; done) | rfl
set_option maxRecDepth 65536 in
set_option maxHeartbeats 40000000 in
theorem rmCl2 (l : Launch) (Z : State) (a0 : Array Value) (hw : ∀ d ∈ tables_1, d.before a0 Z = true) (ws : List Jvm.Cond) (r0 : Addr) (r1 : Addr) (r2 : Addr) (eN eA eC ps crr ads sw oe efd rfd eyr ryr bt bf ic : Addr) (ksw : ClassId) (yA mA dA : Int32) (zA : Int) (xo xl : Addr) (yC mC dC : Int32) (zC : Int) (h0 : Heap) (n0 : Nat) (Z0 : n0 ≤ h0.size) (O0 : Old Z n0 h0) (El : Exa Z h0 r0 "com/example/ratabl/ratabl/engine/Lock") (Fm_ : Fld Z h0 r0 "com/example/ratabl/ratabl/engine/Lock" "method" "Lcom/example/ratabl/ratabl/model/LockDateMethod;" (.ref eC)) (Fo_ : Fld Z h0 r0 "com/example/ratabl/ratabl/engine/Lock" "lockDate" "Ljava/util/Optional;" (.ref xo)) (Eo : Exa Z h0 xo "java/util/Optional") (Fv_ : Fld Z h0 xo "java/util/Optional" "value" "Ljava/lang/Object;" (.ref xl)) (ExC : Exa Z h0 xl "java/time/LocalDate") (FyC : Fld Z h0 xl "java/time/LocalDate" "year" "I" (.int yC)) (FmC : Fld Z h0 xl "java/time/LocalDate" "month" "S" (.int mC)) (FdC : Fld Z h0 xl "java/time/LocalDate" "day" "S" (.int dC)) (ExA : Exa Z h0 r2 "java/time/LocalDate") (FyA : Fld Z h0 r2 "java/time/LocalDate" "year" "I" (.int yA)) (FmA : Fld Z h0 r2 "java/time/LocalDate" "month" "S" (.int mA)) (FdA : Fld Z h0 r2 "java/time/LocalDate" "day" "S" (.int dA)) (SS : Stw Z eN eA eC ps crr ads sw oe efd rfd eyr ryr bt bf ic ksw) (DA : own_dt yA mA dA zA) (DC : own_dt yC mC dC zC) (hz1 : zC + 1 ≤ 9000000000) :
  MetFree l (⟨"com/example/ratabl/ratabl/engine/Lock", "closes", "(Ljava/time/LocalDate;Ljava/time/LocalDate;)Z"⟩ : MethodName) (head1 (Jvm.Cond.code (⟨"com/example/ratabl/ratabl/engine/Lock", "closes", "(Ljava/time/LocalDate;Ljava/time/LocalDate;)Z"⟩ : MethodName) prog_38_method_4_code 3 (some .boolean) :: ws) ({ frames := 6, cells := 4, slots := 6, locals := 3074 } : Room)) (fun a U => a = #[(.ref r0), (.ref r1), (.ref r2)] ∧ Z.Warmed39 U.vm ∧ U.heap = h0) (fun _ _ _ _ _ => True) (fun _ U o U' => ∃ v L, o = .returned v ∧ QCl2 Z r0 r1 r2 eN eA eC ps crr ads sw oe efd rfd eyr ryr bt bf ic ksw yA mA dA zA xo xl yC mC dC zC h0 n0 v U'.heap L ∧ FrameEnd U o U' L ({ frames := 6, cells := 4, slots := 6, locals := 3074 } : Room).cells ({ frames := 6, cells := 4, slots := 6, locals := 3074 } : Room).slots) := by
 refine MetFree.of_bodySF (plainFor_of_name pnc_com_example_ratabl_ratabl_engine_Lock) hisR ?_
 intro p e s m args below meth c s₁ Bd hml0 hP hK
 obtain ⟨rfl, hZ, hh⟩ := hP
 have hx := Bd.exec
 have hby := Bd.bytes
 have hml : c.maxLocals = 3 := hml0
 have hown : s.vm.findClass "com/example/ratabl/ratabl/engine/Lock" = some m.cls := findClass_of_methodNamed Bd.named
 have hnm := (name_of_methodNamed Bd.named Bd.method).1
 have X0 : Stand p l e ({ frames := 6, cells := 4, slots := 6, locals := 3074 } : Room) s m #[(.ref r0), (.ref r1), (.ref r2)] below meth c s₁ [] 0 0 := Stand.of_body Bd
 have e0 : s₁.heap = h0 := by rw [← hh, Bd.state]; rfl
 have N0 := Fr.nil n0
 have kp0 : Keep h0 h0 [] := Keep.refl _ _
 have G0 : ∀ t, Steps p.tables e below (s₁.setTop (mkF m 0 #[rv r0, rv r1, rv r2] [])) t → Steps p.tables e below (s₁.setTop (entryFrame m #[(.ref r0), (.ref r1), (.ref r2)] 3)) t := fun t k => castTop (ef_rmCl2 m r0 r1 r2) k
 obtain ⟨cq1, q1, q1'⟩ := El.cell
 obtain ⟨_, _, ⟨T1, L1, k1, n1⟩, -, X1, ⟨Lc1, hQ1, l1, y1, z1⟩, st1⟩ := X0.privateBack hx (y := (⟨"com/example/ratabl/ratabl/engine/Lock", "firstOpen", "(Ljava/time/LocalDate;)Ljava/util/Optional;"⟩ : MethodName)) hown (mvT hZ (hq hw 171 rfl)) (mvT hZ (hq hw 172 rfl)) (own_selp (mvT hZ (hq hw 83 rfl)) (mvT hZ (hq hw 172 rfl)) (mvP hZ (hq hw 173 rfl)) (by decide)) (Cond.privateMethod_at (mvP hZ (hq hw 173 rfl) (args := #[]))) (mvT hZ (hq hw 174 rfl)) (by decide) (backOf (W := 0) (rmFO2 l Z a0 hw [] r0 r1 eN eA eC ps crr ads sw oe efd rfd eyr ryr bt bf ic ksw xo xl yC mC dC (zC) h0 n0 Z0 O0 El Fm_ Fo_ Eo Fv_ ExC FyC FmC FdC SS DC hz1) hZ (hq hw 174 rfl) (hq hw 80 rfl) (by decide) (by decide)) (g := (mkF m 2 #[rv r0, rv r1, rv r2] [(.ref r1), (.ref r0)])) rfl (by rw [hml]; rfl) (Steps.refl _) (a := r0) (by rw [e0]; exact q1) q1' (argsL := [(.ref r1)]) (rest := []) (lenOf pd_22 rfl) rfl (by show 2 * 0 + _ ≤ _; exact Nat.le_of_eq rfl) (hb hby d22_2) (fun _ _ => ⟨rfl, e0, (by decide : 0 + 2 ≤ _), (by decide : 0 + 4 ≤ _)⟩)
 dsimp only [Pt.U, Pt.locs, Pt.cells, Pt.slots] at X1 l1 y1 z1 st1 hQ1
 subst l1 y1 z1
 obtain ⟨bo1, nd1, yd1, md1, dd1, rfl, N1q, K1, A1, Gv1, B1, Gy1, Gm1, Gd1, DT1⟩ := hQ1
 have N1 := Fr.app N0 N1q
 have fa2 := O0.keep K1 all0
 have fa3 := El.keep K1
 have fa4 := Fm_.keep K1 nin0
 have fa5 := Fo_.keep K1 nin0
 have fa6 := Eo.keep K1
 have fa7 := Fv_.keep K1 nin0
 have fa8 := ExC.keep K1
 have fa9 := FyC.keep K1 nin0
 have fa10 := FmC.keep K1 nin0
 have fa11 := FdC.keep K1 nin0
 have fa12 := ExA.keep K1
 have fa13 := FyA.keep K1 nin0
 have fa14 := FmA.keep K1 nin0
 have fa15 := FdA.keep K1 nin0
 have z16 : n0 ≤ T1.heap.size := Nat.le_trans Z0 K1.1
 have kp17 : Keep h0 T1.heap [] := kp0.trans K1 all0
 obtain ⟨_, _, ⟨T18, L18, k18, n18⟩, -, X18, ⟨Lc18, hQ18, l18, y18, z18⟩, st18⟩ := Jvm.LawKit.callS X1 hx (y := (⟨"java/util/Objects", "requireNonNull", "(Ljava/lang/Object;)Ljava/lang/Object;"⟩ : MethodName)) hown (mvT hZ (hq hw 188 rfl)) (mvT hZ (hq hw 189 rfl)) (mvT hZ (hq hw 48 rfl)) (mvT hZ (hq hw 190 rfl)) (by decide) (backOf (W := 2) (rm25 l Z a0 hw [] r2  T1.heap n0 z16  ) hZ (hq hw 190 rfl) (hq hw 48 rfl) (by decide) (by decide)) (g := (mkF m 7 #[rv r0, rv r1, rv r2] [(.ref r2), (.ref r2), (.ref bo1)])) rfl (by rw [hml]; rfl) (argsL := [(.ref r2)]) (rest := [(.ref r2), (.ref bo1)]) (lenOf pd_9 rfl) rfl (by show 2 * 0 + _ ≤ _; exact Nat.le_of_eq rfl) (hb hby d22_7) (fun _ _ => ⟨rfl, rfl, (by decide : 2 + 0 ≤ _), (by decide : 4 + 0 ≤ _)⟩)
 dsimp only [Pt.U, Pt.locs, Pt.cells, Pt.slots] at X18 l18 y18 z18 st18 hQ18
 subst l18 y18 z18
 obtain ⟨rfl, N18q, eh18⟩ := hQ18
 have N18 := Fr.app N1 N18q
 obtain ⟨T19, h19, cK19, X19, e19, E19, LM19, st19⟩ := own_indy X18 hx hZ hw Bd.named hml hby eh18 r2 bo1 #[rv r0, rv r1, rv r2] rfl (by decide) (by decide : 2 + 1 ≤ _) (by decide : 4 + 1 ≤ _)
 obtain ⟨b19, g19⟩ : ∃ z, z = T1.heap.size := ⟨_, rfl⟩
 rw [← g19] at LM19 st19
 have g_b19 : n0 ≤ b19 := Nat.le_trans z16 (Nat.le_of_eq g19.symm)
 have sz_b19 : h0.size ≤ b19 := Nat.le_trans kp17.1 (Nat.le_of_eq g19.symm)
 have ne_r0_b19 : r0 ≠ b19 := Nat.ne_of_lt (Nat.lt_of_lt_of_le fa3.lt (Nat.le_of_eq g19.symm))
 have ne_xo_b19 : xo ≠ b19 := Nat.ne_of_lt (Nat.lt_of_lt_of_le fa6.lt (Nat.le_of_eq g19.symm))
 have ne_xl_b19 : xl ≠ b19 := Nat.ne_of_lt (Nat.lt_of_lt_of_le fa8.lt (Nat.le_of_eq g19.symm))
 have ne_r2_b19 : r2 ≠ b19 := Nat.ne_of_lt (Nat.lt_of_lt_of_le fa12.lt (Nat.le_of_eq g19.symm))
 have ne_bo1_b19 : bo1 ≠ b19 := Nat.ne_of_lt (Nat.lt_of_lt_of_le A1.lt (Nat.le_of_eq g19.symm))
 have ne_nd1_b19 : nd1 ≠ b19 := Nat.ne_of_lt (Nat.lt_of_lt_of_le B1.lt (Nat.le_of_eq g19.symm))
 have fa20 := fa2.ext E19
 have fa21 := fa3.ext E19
 have fa22 := fa4.ext E19
 have fa23 := fa5.ext E19
 have fa24 := fa6.ext E19
 have fa25 := fa7.ext E19
 have fa26 := fa8.ext E19
 have fa27 := fa9.ext E19
 have fa28 := fa10.ext E19
 have fa29 := fa11.ext E19
 have fa30 := fa12.ext E19
 have fa31 := fa13.ext E19
 have fa32 := fa14.ext E19
 have fa33 := fa15.ext E19
 have fa34 := A1.ext E19
 have fa35 := Gv1.ext E19
 have fa36 := B1.ext E19
 have fa37 := Gy1.ext E19
 have fa38 := Gm1.ext E19
 have fa39 := Gd1.ext E19
 have z40 : n0 ≤ h19.size := Nat.le_trans z16 E19.1
 have kp41 : Keep h0 h19 [] := kp17.ext E19
 obtain ⟨cq42, kq42, q42a, q42b, q42c⟩ := isOf hZ e19 fa34
 obtain ⟨_, _, ⟨T42, L42, k42, n42⟩, -, X42, ⟨Lc42, hQ42, l42, y42, z42⟩, st42⟩ := X19.virtualBack hx (y := (⟨"java/util/Optional", "map", "(Ljava/util/function/Function;)Ljava/util/Optional;"⟩ : MethodName)) (z := (⟨"java/util/Optional", "map", "(Ljava/util/function/Function;)Ljava/util/Optional;"⟩ : MethodName)) hown (mvT hZ (hq hw 194 rfl)) (mvT hZ (hq hw 195 rfl)) (notFace_of_selects (args := #[]) (mvT hZ (hq hw 197 rfl))) (mvT hZ (hq hw 197 rfl)) (mvT hZ (hq hw 196 rfl)) (by decide) (backOf (W := 0) (rmMap1 l Z a0 hw [] bo1 b19 eN eA eC ps crr ads sw oe efd rfd eyr ryr bt bf ic ksw nd1 r2 yA mA dA yd1 md1 dd1 (zA) (zC + 1) cK19 h19 n0 z40 fa20 fa34 fa35 fa30 fa31 fa32 fa33 fa36 fa37 fa38 fa39 SS LM19 DA DT1) hZ (hq hw 198 rfl) (hq hw 7 rfl) (by decide) (by decide)) q42a q42c (g := (mkF m 16 #[rv r0, rv r1, rv r2] [(.ref b19), (.ref bo1)])) rfl (by rw [hml]; rfl) (Steps.refl _) (argsL := [(.ref b19)]) (rest := []) (lenOf pd_23 rfl) rfl (by show 2 * 0 + _ ≤ _; exact Nat.le_of_eq rfl) (hb hby d22_16) (fun _ _ => ⟨rfl, e19, (by decide : 3 + 1 ≤ _), (by decide : 5 + 1 ≤ _)⟩)
 dsimp only [Pt.U, Pt.locs, Pt.cells, Pt.slots] at X42 l42 y42 z42 st42 hQ42
 subst l42 y42 z42
 obtain ⟨bo42, rfl, N42q, K42, A42, Gv42⟩ := hQ42
 have N42 := Fr.app N18 N42q
 have fa43 := fa20.keep K42 all0
 have fa44 := fa21.keep K42
 have fa45 := fa22.keep K42 nin0
 have fa46 := fa23.keep K42 nin0
 have fa47 := fa24.keep K42
 have fa48 := fa25.keep K42 nin0
 have fa49 := fa26.keep K42
 have fa50 := fa27.keep K42 nin0
 have fa51 := fa28.keep K42 nin0
 have fa52 := fa29.keep K42 nin0
 have fa53 := fa30.keep K42
 have fa54 := fa31.keep K42 nin0
 have fa55 := fa32.keep K42 nin0
 have fa56 := fa33.keep K42 nin0
 have fa57 := fa34.keep K42
 have fa58 := fa35.keep K42 nin0
 have fa59 := fa36.keep K42
 have fa60 := fa37.keep K42 nin0
 have fa61 := fa38.keep K42 nin0
 have fa62 := fa39.keep K42 nin0
 have z63 : n0 ≤ T42.heap.size := Nat.le_trans z40 K42.1
 have kp64 : Keep h0 T42.heap [] := kp41.trans K42 all0
 obtain ⟨_, _, ⟨T65, L65, k65, n65⟩, -, X65, ⟨Lc65, hQ65, l65, y65, z65⟩, st65⟩ := Jvm.LawKit.callS X42 hx (y := (⟨"java/lang/Boolean", "valueOf", "(Z)Ljava/lang/Boolean;"⟩ : MethodName)) hown (mvT hZ (hq hw 208 rfl)) (mvT hZ (hq hw 209 rfl)) (mvT hZ (hq hw 210 rfl)) (mvT hZ (hq hw 211 rfl)) (by decide) (backOf (W := 1) (rm28 l Z a0 hw [] (0 : Int32) eN eA eC ps crr ads sw oe efd rfd eyr ryr bt bf ic ksw  T42.heap n0 z63 fa43  SS ) hZ (hq hw 211 rfl) (hq hw 210 rfl) (by decide) (by decide)) (g := (mkF m 20 #[rv r0, rv r1, rv r2] [(.int (0 : Int32)), (.ref bo42)])) rfl (by rw [hml]; rfl) (argsL := [(.int (0 : Int32))]) (rest := [(.ref bo42)]) (lenOf pd_21 rfl) rfl (by show 2 * 0 + _ ≤ _; exact Nat.le_of_eq rfl) (hb hby d22_20) (fun _ _ => ⟨rfl, rfl, (by decide : 4 + 0 ≤ _), (by decide : 6 + 0 ≤ _)⟩)
 dsimp only [Pt.U, Pt.locs, Pt.cells, Pt.slots] at X65 l65 y65 z65 st65 hQ65
 subst l65 y65 z65
 obtain ⟨hvo65, N65q, eh65⟩ := hQ65
 rw [own_bo0] at hvo65
 subst hvo65
 have N65 := Fr.app N42 N65q
 obtain ⟨cq66, kq66, q66a, q66b, q66c⟩ := isOf hZ eh65 A42
 obtain ⟨_, _, ⟨T66, L66, k66, n66⟩, -, X66, ⟨Lc66, hQ66, l66, y66, z66⟩, st66⟩ := X65.virtualBack hx (y := (⟨"java/util/Optional", "orElse", "(Ljava/lang/Object;)Ljava/lang/Object;"⟩ : MethodName)) (z := (⟨"java/util/Optional", "orElse", "(Ljava/lang/Object;)Ljava/lang/Object;"⟩ : MethodName)) hown (mvT hZ (hq hw 213 rfl)) (mvT hZ (hq hw 214 rfl)) (notFace_of_selects (args := #[]) (mvT hZ (hq hw 216 rfl))) (mvT hZ (hq hw 216 rfl)) (mvT hZ (hq hw 215 rfl)) (by decide) (backOf (W := 0) (rmOorElse0 l Z a0 hw [] bo42 bf (own_bo (own_lt (zA) (zC + 1)) bt bf) T42.heap n0 z63 Gv42 ) hZ (hq hw 217 rfl) (hq hw 7 rfl) (by decide) (by decide)) q66a q66c (g := (mkF m 23 #[rv r0, rv r1, rv r2] [(.ref bf), (.ref bo42)])) rfl (by rw [hml]; rfl) (Steps.refl _) (argsL := [(.ref bf)]) (rest := []) (lenOf pd_9 rfl) rfl (by show 2 * 0 + _ ≤ _; exact Nat.le_of_eq rfl) (hb hby d22_23) (fun _ _ => ⟨rfl, eh65, (by decide : 4 + 0 ≤ _), (by decide : 6 + 0 ≤ _)⟩)
 dsimp only [Pt.U, Pt.locs, Pt.cells, Pt.slots] at X66 l66 y66 z66 st66 hQ66
 subst l66 y66 z66
 obtain ⟨rfl, N66q, eh66⟩ := hQ66
 have N66 := Fr.app N65 N66q
 have BE := own_boE SS (cb := (own_lt (zA) (zC + 1))) (own_lt01 _ _)
 obtain ⟨T67, X67, e67, st67⟩ := castY X66 hx hZ hown (hq hw 218 rfl) eh66 (Ins.self (BE.1.ext fa43.2)) (g := (mkF m 26 #[rv r0, rv r1, rv r2] [(.ref (own_bo (own_lt (zA) (zC + 1)) bt bf))])) rfl rfl (hb hby d22_26)
 obtain ⟨cq68, kq68, q68a, q68b, q68c⟩ := isOf hZ e67 (BE.1.ext fa43.2)
 obtain ⟨_, _, ⟨T68, L68, k68, n68⟩, -, X68, ⟨Lc68, hQ68, l68, y68, z68⟩, st68⟩ := X67.virtualBack hx (y := (⟨"java/lang/Boolean", "booleanValue", "()Z"⟩ : MethodName)) (z := (⟨"java/lang/Boolean", "booleanValue", "()Z"⟩ : MethodName)) hown (mvT hZ (hq hw 220 rfl)) (mvT hZ (hq hw 221 rfl)) (notFace_of_selects (args := #[]) (mvT hZ (hq hw 223 rfl))) (mvT hZ (hq hw 223 rfl)) (mvT hZ (hq hw 222 rfl)) (by decide) (backOf (W := 0) (rm30 l Z a0 hw [] (own_bo (own_lt (zA) (zC + 1)) bt bf) (own_lt (zA) (zC + 1)) T42.heap n0 z63 (BE.2.ext fa43.2) (own_lt01 _ _)) hZ (hq hw 224 rfl) (hq hw 210 rfl) (by decide) (by decide)) q68a q68c (g := (mkF m 29 #[rv r0, rv r1, rv r2] [(.ref (own_bo (own_lt (zA) (zC + 1)) bt bf))])) rfl (by rw [hml]; rfl) (Steps.refl _) (argsL := []) (rest := []) (lenOf pd_6 rfl) rfl (by show 2 * 0 + _ ≤ _; exact Nat.le_of_eq rfl) (hb hby d22_29) (fun _ _ => ⟨rfl, e67, (by decide : 4 + 0 ≤ _), (by decide : 6 + 0 ≤ _)⟩)
 dsimp only [Pt.U, Pt.locs, Pt.cells, Pt.slots] at X68 l68 y68 z68 st68 hQ68
 subst l68 y68 z68
 obtain ⟨rfl, N68q, eh68⟩ := hQ68
 have N68 := Fr.app N66 N68q
 obtain ⟨fs, hr, hrun, hended, hW, hsame⟩ := X68.leave (v := some (.int (nar .boolean (own_lt (zA) (zC + 1))))) (fun h => by rw [Bd.returns] at h; cases h)
 refine ⟨_, _, G0 _ ?_, hrun, hended, _, _, rfl, ?_, ⟨_, rfl⟩, hW, hsame.mono (by decide) (by decide)⟩
 ·skip
  refine XS.aloadN X0.here hx rfl (hb hby d22_0) rfl rfl ?_
  refine XS.aloadN X0.here hx rfl (hb hby d22_1) rfl rfl ?_
  refine st1.trans ?_
  refine XS.aloadN X1.here hx rfl (hb hby d22_5) rfl rfl ?_
  refine XS.dup X1.here hx rfl (hb hby d22_6) rfl rfl ?_
  refine st18 _ ?_
  refine XS.pop X18.here hx rfl (hb hby d22_10) rfl rfl ?_
  show Steps p.tables e below (T18.setTop (mkF m 11 #[rv r0, rv r1, rv r2] [(.ref r2), (.ref bo1)])) _
  refine st19 _ ?_
  refine st42.trans ?_
  refine XS.iconst X42.here hx rfl (hb hby d22_19) ?_
  refine st65 _ ?_
  refine st66.trans ?_
  refine st67 _ ?_
  refine st68.trans ?_
  exact retN X68 hx (t := .boolean) Bd.returns (by simp) (hb hby d22_32) hr
 ·show QCl2 Z r0 r1 r2 eN eA eC ps crr ads sw oe efd rfd eyr ryr bt bf ic ksw yA mA dA zA xo xl yC mC dC zC h0 n0 _ T68.heap _
  rw [eh68]
  exact ⟨by rw [own_nz (own_lt01 _ _)], N68, kp64⟩
theorem d31_0 : decode prog_38_method_5_code 0 = .ok (.aload_n 0, 1) := by decide +kernel
theorem d31_1 : decode prog_38_method_5_code 1 = .ok (.aload_n 1, 1) := by decide +kernel
theorem d31_2 : decode prog_38_method_5_code 2 = .ok (.aload_n 2, 1) := by decide +kernel
theorem d31_3 : decode prog_38_method_5_code 3 = .ok (.invokevirtual 103, 3) := by decide +kernel
theorem pd_24 : parseMethodDescriptor "(Ljava/time/LocalDate;Ljava/time/LocalDate;)Z" = some ⟨[(.object "java/time/LocalDate"), (.object "java/time/LocalDate")], some .boolean⟩ := by decide +kernel
theorem d31_6 : decode prog_38_method_5_code 6 = .ok (.ifCond .eq 17, 3) := by decide +kernel
theorem d31_23 : decode prog_38_method_5_code 23 = .ok (.aload_n 2, 1) := by decide +kernel
theorem d31_24 : decode prog_38_method_5_code 24 = .ok (.areturn, 1) := by decide +kernel
def QPo0 (Z : State) (r0 : Addr) (r1 : Addr) (r2 : Addr) (eN eA eC ps crr ads sw oe efd rfd eyr ryr bt bf ic : Addr) (ksw : ClassId) (yA mA dA : Int32) (zA : Int) (h0 : Heap) (n0 : Nat) (v : Option Value) (h : Heap) (L : List Loc) : Prop := ∃ (b : Addr) (y m d : Int32), v = some (.ref b) ∧ Fr n0 L ∧ Keep h0 h [] ∧ Exa Z h b "java/time/LocalDate" ∧ Fld Z h b "java/time/LocalDate" "year" "I" (.int y) ∧ Fld Z h b "java/time/LocalDate" "month" "S" (.int m) ∧ Fld Z h b "java/time/LocalDate" "day" "S" (.int d) ∧ own_dt y m d (zA)
theorem ef_rmPo0 (m : MethodId) (x0 : Addr) (x1 : Addr) (x2 : Addr) : entryFrame m #[(.ref x0), (.ref x1), (.ref x2)] 3 = mkF m 0 #[.val (.ref x0), .val (.ref x1), .val (.ref x2)] [] := by first | (simp [entryFrame, mkF, argsToLocals, Value.category]; done) | rfl
set_option maxRecDepth 65536 in
set_option maxHeartbeats 40000000 in
theorem rmPo0 (l : Launch) (Z : State) (a0 : Array Value) (hw : ∀ d ∈ tables_1, d.before a0 Z = true) (ws : List Jvm.Cond) (r0 : Addr) (r1 : Addr) (r2 : Addr) (eN eA eC ps crr ads sw oe efd rfd eyr ryr bt bf ic : Addr) (ksw : ClassId) (yA mA dA : Int32) (zA : Int) (h0 : Heap) (n0 : Nat) (Z0 : n0 ≤ h0.size) (O0 : Old Z n0 h0) (El : Exa Z h0 r0 "com/example/ratabl/ratabl/engine/Lock") (Fm_ : Fld Z h0 r0 "com/example/ratabl/ratabl/engine/Lock" "method" "Lcom/example/ratabl/ratabl/model/LockDateMethod;" (.ref eN)) (ExA : Exa Z h0 r2 "java/time/LocalDate") (FyA : Fld Z h0 r2 "java/time/LocalDate" "year" "I" (.int yA)) (FmA : Fld Z h0 r2 "java/time/LocalDate" "month" "S" (.int mA)) (FdA : Fld Z h0 r2 "java/time/LocalDate" "day" "S" (.int dA)) (SS : Stw Z eN eA eC ps crr ads sw oe efd rfd eyr ryr bt bf ic ksw) (DA : own_dt yA mA dA zA) :
  MetFree l (⟨"com/example/ratabl/ratabl/engine/Lock", "postsOn", "(Ljava/time/LocalDate;Ljava/time/LocalDate;)Ljava/time/LocalDate;"⟩ : MethodName) (head1 (Jvm.Cond.code (⟨"com/example/ratabl/ratabl/engine/Lock", "postsOn", "(Ljava/time/LocalDate;Ljava/time/LocalDate;)Ljava/time/LocalDate;"⟩ : MethodName) prog_38_method_5_code 3 (some (.object "java/time/LocalDate")) :: ws) ({ frames := 3, cells := 1, slots := 1, locals := 3088 } : Room)) (fun a U => a = #[(.ref r0), (.ref r1), (.ref r2)] ∧ Z.Warmed39 U.vm ∧ U.heap = h0) (fun _ _ _ _ _ => True) (fun _ U o U' => ∃ v L, o = .returned v ∧ QPo0 Z r0 r1 r2 eN eA eC ps crr ads sw oe efd rfd eyr ryr bt bf ic ksw yA mA dA zA h0 n0 v U'.heap L ∧ FrameEnd U o U' L ({ frames := 3, cells := 1, slots := 1, locals := 3088 } : Room).cells ({ frames := 3, cells := 1, slots := 1, locals := 3088 } : Room).slots) := by
 refine MetFree.of_bodySF (plainFor_of_name pnc_com_example_ratabl_ratabl_engine_Lock) hisR ?_
 intro p e s m args below meth c s₁ Bd hml0 hP hK
 obtain ⟨rfl, hZ, hh⟩ := hP
 have hx := Bd.exec
 have hby := Bd.bytes
 have hml : c.maxLocals = 3 := hml0
 have hown : s.vm.findClass "com/example/ratabl/ratabl/engine/Lock" = some m.cls := findClass_of_methodNamed Bd.named
 have hnm := (name_of_methodNamed Bd.named Bd.method).1
 have X0 : Stand p l e ({ frames := 3, cells := 1, slots := 1, locals := 3088 } : Room) s m #[(.ref r0), (.ref r1), (.ref r2)] below meth c s₁ [] 0 0 := Stand.of_body Bd
 have e0 : s₁.heap = h0 := by rw [← hh, Bd.state]; rfl
 have N0 := Fr.nil n0
 have kp0 : Keep h0 h0 [] := Keep.refl _ _
 have G0 : ∀ t, Steps p.tables e below (s₁.setTop (mkF m 0 #[rv r0, rv r1, rv r2] [])) t → Steps p.tables e below (s₁.setTop (entryFrame m #[(.ref r0), (.ref r1), (.ref r2)] 3)) t := fun t k => castTop (ef_rmPo0 m r0 r1 r2) k
 obtain ⟨cq1, kq1, q1a, q1b, q1c⟩ := isOf hZ e0 El
 obtain ⟨_, _, ⟨T1, L1, k1, n1⟩, -, X1, ⟨Lc1, hQ1, l1, y1, z1⟩, st1⟩ := X0.virtualBack hx (y := (⟨"com/example/ratabl/ratabl/engine/Lock", "closes", "(Ljava/time/LocalDate;Ljava/time/LocalDate;)Z"⟩ : MethodName)) (z := (⟨"com/example/ratabl/ratabl/engine/Lock", "closes", "(Ljava/time/LocalDate;Ljava/time/LocalDate;)Z"⟩ : MethodName)) hown (mvT hZ (hq hw 232 rfl)) (mvT hZ (hq hw 167 rfl)) (notFace_of_selects (args := #[]) (mvT hZ (hq hw 169 rfl))) (mvT hZ (hq hw 169 rfl)) (mvT hZ (hq hw 168 rfl)) (by decide) (backOf (W := 0) (rmCl0 l Z a0 hw [] r0 r1 r2 eN eA eC ps crr ads sw oe efd rfd eyr ryr bt bf ic ksw yA mA dA (zA) h0 n0 Z0 O0 El Fm_  ExA FyA FmA FdA  SS DA ) hZ (hq hw 170 rfl) (hq hw 80 rfl) (by decide) (by decide)) q1a q1c (g := (mkF m 3 #[rv r0, rv r1, rv r2] [(.ref r2), (.ref r1), (.ref r0)])) rfl (by rw [hml]; rfl) (Steps.refl _) (argsL := [(.ref r1), (.ref r2)]) (rest := []) (lenOf pd_24 rfl) rfl (by show 2 * 0 + _ ≤ _; exact Nat.le_of_eq rfl) (hb hby d31_3) (fun _ _ => ⟨rfl, e0, (by decide : 0 + 1 ≤ _), (by decide : 0 + 1 ≤ _)⟩)
 dsimp only [Pt.U, Pt.locs, Pt.cells, Pt.slots] at X1 l1 y1 z1 st1 hQ1
 subst l1 y1 z1
 obtain ⟨rfl, N1q, K1⟩ := hQ1
 have N1 := Fr.app N0 N1q
 have fa2 := O0.keep K1 all0
 have fa3 := El.keep K1
 have fa4 := Fm_.keep K1 nin0
 have fa5 := ExA.keep K1
 have fa6 := FyA.keep K1 nin0
 have fa7 := FmA.keep K1 nin0
 have fa8 := FdA.keep K1 nin0
 have z9 : n0 ≤ T1.heap.size := Nat.le_trans Z0 K1.1
 have kp10 : Keep h0 T1.heap [] := kp0.trans K1 all0
 have G11 : ∀ t, Steps p.tables e below (T1.setTop (mkF m 6 #[rv r0, rv r1, rv r2] [(.int (0 : Int32))])) t → Steps p.tables e below (s₁.setTop (entryFrame m #[(.ref r0), (.ref r1), (.ref r2)] 3)) t := by
  intro t kt
  refine G0 _ ?_
  refine XS.aloadN X0.here hx rfl (hb hby d31_0) rfl rfl ?_
  refine XS.aloadN X0.here hx rfl (hb hby d31_1) rfl rfl ?_
  refine XS.aloadN X0.here hx rfl (hb hby d31_2) rfl rfl ?_
  refine st1.trans ?_
  exact kt
 obtain ⟨fs, hr, hrun, hended, hW, hsame⟩ := X1.leave (v := some (.ref r2)) (fun h => by rw [Bd.returns] at h; cases h)
 refine ⟨_, _, G11 _ ?_, hrun, hended, _, _, rfl, ?_, ⟨_, rfl⟩, hW, hsame.mono (by decide) (by decide)⟩
 ·skip
  refine XS.ifYes X1.here hx rfl (pc0 := 6) (pc' := 23) rfl (hb hby d31_6) rfl ((if0 _ _).trans (teq (by decide)).1) (by decide) (by decide) ?_
  refine XS.aloadN X1.here hx rfl (hb hby d31_23) rfl rfl ?_
  exact retOut X1 hx Bd.returns rfl (Or.inr (Or.inr (Or.inr (Or.inr ⟨rfl, rfl, rfl⟩)))) (hb hby d31_24) hr
 ·show QPo0 Z r0 r1 r2 eN eA eC ps crr ads sw oe efd rfd eyr ryr bt bf ic ksw yA mA dA zA h0 n0 _ T1.heap _
  exact ⟨r2, _, _, _, rfl, N1, kp10, fa5, fa6, fa7, fa8, DA⟩
theorem d31_9 : decode prog_38_method_5_code 9 = .ok (.aload_n 0, 1) := by decide +kernel
theorem d31_10 : decode prog_38_method_5_code 10 = .ok (.aload_n 1, 1) := by decide +kernel
theorem d31_11 : decode prog_38_method_5_code 11 = .ok (.invokevirtual 30, 3) := by decide +kernel
theorem d31_14 : decode prog_38_method_5_code 14 = .ok (.invokevirtual 51, 3) := by decide +kernel
theorem d31_17 : decode prog_38_method_5_code 17 = .ok (.checkcast 44, 3) := by decide +kernel
theorem d31_20 : decode prog_38_method_5_code 20 = .ok (.goto 4, 3) := by decide +kernel
def QPo1 (Z : State) (r0 : Addr) (r1 : Addr) (r2 : Addr) (eN eA eC ps crr ads sw oe efd rfd eyr ryr bt bf ic : Addr) (ksw : ClassId) (yA mA dA yB mB dB : Int32) (zA zB : Int) (h0 : Heap) (n0 : Nat) (v : Option Value) (h : Heap) (L : List Loc) : Prop := ∃ (b : Addr) (y m d : Int32), v = some (.ref b) ∧ Fr n0 L ∧ Keep h0 h [] ∧ Exa Z h b "java/time/LocalDate" ∧ Fld Z h b "java/time/LocalDate" "year" "I" (.int y) ∧ Fld Z h b "java/time/LocalDate" "month" "S" (.int m) ∧ Fld Z h b "java/time/LocalDate" "day" "S" (.int d) ∧ own_dt y m d (if zA < zB then zB else zA)
theorem ef_rmPo1 (m : MethodId) (x0 : Addr) (x1 : Addr) (x2 : Addr) : entryFrame m #[(.ref x0), (.ref x1), (.ref x2)] 3 = mkF m 0 #[.val (.ref x0), .val (.ref x1), .val (.ref x2)] [] := by first | (simp [entryFrame, mkF, argsToLocals, Value.category]; done) | rfl
set_option maxRecDepth 65536 in
set_option maxHeartbeats 40000000 in
theorem rmPo1 (l : Launch) (Z : State) (a0 : Array Value) (hw : ∀ d ∈ tables_1, d.before a0 Z = true) (ws : List Jvm.Cond) (r0 : Addr) (r1 : Addr) (r2 : Addr) (eN eA eC ps crr ads sw oe efd rfd eyr ryr bt bf ic : Addr) (ksw : ClassId) (yA mA dA yB mB dB : Int32) (zA zB : Int) (h0 : Heap) (n0 : Nat) (Z0 : n0 ≤ h0.size) (O0 : Old Z n0 h0) (El : Exa Z h0 r0 "com/example/ratabl/ratabl/engine/Lock") (Fm_ : Fld Z h0 r0 "com/example/ratabl/ratabl/engine/Lock" "method" "Lcom/example/ratabl/ratabl/model/LockDateMethod;" (.ref eA)) (ExA : Exa Z h0 r2 "java/time/LocalDate") (FyA : Fld Z h0 r2 "java/time/LocalDate" "year" "I" (.int yA)) (FmA : Fld Z h0 r2 "java/time/LocalDate" "month" "S" (.int mA)) (FdA : Fld Z h0 r2 "java/time/LocalDate" "day" "S" (.int dA)) (ExB : Exa Z h0 r1 "java/time/LocalDate") (FyB : Fld Z h0 r1 "java/time/LocalDate" "year" "I" (.int yB)) (FmB : Fld Z h0 r1 "java/time/LocalDate" "month" "S" (.int mB)) (FdB : Fld Z h0 r1 "java/time/LocalDate" "day" "S" (.int dB)) (SS : Stw Z eN eA eC ps crr ads sw oe efd rfd eyr ryr bt bf ic ksw) (DA : own_dt yA mA dA zA) (DB : own_dt yB mB dB zB) :
  MetFree l (⟨"com/example/ratabl/ratabl/engine/Lock", "postsOn", "(Ljava/time/LocalDate;Ljava/time/LocalDate;)Ljava/time/LocalDate;"⟩ : MethodName) (head1 (Jvm.Cond.code (⟨"com/example/ratabl/ratabl/engine/Lock", "postsOn", "(Ljava/time/LocalDate;Ljava/time/LocalDate;)Ljava/time/LocalDate;"⟩ : MethodName) prog_38_method_5_code 3 (some (.object "java/time/LocalDate")) :: ws) ({ frames := 5, cells := 4, slots := 4, locals := 3088 } : Room)) (fun a U => a = #[(.ref r0), (.ref r1), (.ref r2)] ∧ Z.Warmed39 U.vm ∧ U.heap = h0) (fun _ _ _ _ _ => True) (fun _ U o U' => ∃ v L, o = .returned v ∧ QPo1 Z r0 r1 r2 eN eA eC ps crr ads sw oe efd rfd eyr ryr bt bf ic ksw yA mA dA yB mB dB zA zB h0 n0 v U'.heap L ∧ FrameEnd U o U' L ({ frames := 5, cells := 4, slots := 4, locals := 3088 } : Room).cells ({ frames := 5, cells := 4, slots := 4, locals := 3088 } : Room).slots) := by
 refine MetFree.of_bodySF (plainFor_of_name pnc_com_example_ratabl_ratabl_engine_Lock) hisR ?_
 intro p e s m args below meth c s₁ Bd hml0 hP hK
 obtain ⟨rfl, hZ, hh⟩ := hP
 have hx := Bd.exec
 have hby := Bd.bytes
 have hml : c.maxLocals = 3 := hml0
 have hown : s.vm.findClass "com/example/ratabl/ratabl/engine/Lock" = some m.cls := findClass_of_methodNamed Bd.named
 have hnm := (name_of_methodNamed Bd.named Bd.method).1
 have X0 : Stand p l e ({ frames := 5, cells := 4, slots := 4, locals := 3088 } : Room) s m #[(.ref r0), (.ref r1), (.ref r2)] below meth c s₁ [] 0 0 := Stand.of_body Bd
 have e0 : s₁.heap = h0 := by rw [← hh, Bd.state]; rfl
 have N0 := Fr.nil n0
 have kp0 : Keep h0 h0 [] := Keep.refl _ _
 have G0 : ∀ t, Steps p.tables e below (s₁.setTop (mkF m 0 #[rv r0, rv r1, rv r2] [])) t → Steps p.tables e below (s₁.setTop (entryFrame m #[(.ref r0), (.ref r1), (.ref r2)] 3)) t := fun t k => castTop (ef_rmPo1 m r0 r1 r2) k
 obtain ⟨cq1, kq1, q1a, q1b, q1c⟩ := isOf hZ e0 El
 obtain ⟨_, _, ⟨T1, L1, k1, n1⟩, -, X1, ⟨Lc1, hQ1, l1, y1, z1⟩, st1⟩ := X0.virtualBack hx (y := (⟨"com/example/ratabl/ratabl/engine/Lock", "closes", "(Ljava/time/LocalDate;Ljava/time/LocalDate;)Z"⟩ : MethodName)) (z := (⟨"com/example/ratabl/ratabl/engine/Lock", "closes", "(Ljava/time/LocalDate;Ljava/time/LocalDate;)Z"⟩ : MethodName)) hown (mvT hZ (hq hw 232 rfl)) (mvT hZ (hq hw 167 rfl)) (notFace_of_selects (args := #[]) (mvT hZ (hq hw 169 rfl))) (mvT hZ (hq hw 169 rfl)) (mvT hZ (hq hw 168 rfl)) (by decide) (backOf (W := 0) (rmCl1 l Z a0 hw [] r0 r1 r2 eN eA eC ps crr ads sw oe efd rfd eyr ryr bt bf ic ksw yA mA dA yB mB dB (zA) (zB) h0 n0 Z0 O0 El Fm_  ExA FyA FmA FdA ExB FyB FmB FdB SS DA DB) hZ (hq hw 170 rfl) (hq hw 80 rfl) (by decide) (by decide)) q1a q1c (g := (mkF m 3 #[rv r0, rv r1, rv r2] [(.ref r2), (.ref r1), (.ref r0)])) rfl (by rw [hml]; rfl) (Steps.refl _) (argsL := [(.ref r1), (.ref r2)]) (rest := []) (lenOf pd_24 rfl) rfl (by show 2 * 0 + _ ≤ _; exact Nat.le_of_eq rfl) (hb hby d31_3) (fun _ _ => ⟨rfl, e0, (by decide : 0 + 3 ≤ _), (by decide : 0 + 3 ≤ _)⟩)
 dsimp only [Pt.U, Pt.locs, Pt.cells, Pt.slots] at X1 l1 y1 z1 st1 hQ1
 subst l1 y1 z1
 obtain ⟨rfl, N1q, K1⟩ := hQ1
 have N1 := Fr.app N0 N1q
 have fa2 := O0.keep K1 all0
 have fa3 := El.keep K1
 have fa4 := Fm_.keep K1 nin0
 have fa5 := ExA.keep K1
 have fa6 := FyA.keep K1 nin0
 have fa7 := FmA.keep K1 nin0
 have fa8 := FdA.keep K1 nin0
 have fa9 := ExB.keep K1
 have fa10 := FyB.keep K1 nin0
 have fa11 := FmB.keep K1 nin0
 have fa12 := FdB.keep K1 nin0
 have z13 : n0 ≤ T1.heap.size := Nat.le_trans Z0 K1.1
 have kp14 : Keep h0 T1.heap [] := kp0.trans K1 all0
 have G15 : ∀ t, Steps p.tables e below (T1.setTop (mkF m 6 #[rv r0, rv r1, rv r2] [(.int (own_lt (zA) (zB)))])) t → Steps p.tables e below (s₁.setTop (entryFrame m #[(.ref r0), (.ref r1), (.ref r2)] 3)) t := by
  intro t kt
  refine G0 _ ?_
  refine XS.aloadN X0.here hx rfl (hb hby d31_0) rfl rfl ?_
  refine XS.aloadN X0.here hx rfl (hb hby d31_1) rfl rfl ?_
  refine XS.aloadN X0.here hx rfl (hb hby d31_2) rfl rfl ?_
  refine st1.trans ?_
  exact kt
 by_cases hc6_16 : (own_lt (zA) (zB)) = (0 : Int32)
 ·skip
  obtain ⟨fs, hr, hrun, hended, hW, hsame⟩ := X1.leave (v := some (.ref r2)) (fun h => by rw [Bd.returns] at h; cases h)
  refine ⟨_, _, G15 _ ?_, hrun, hended, _, _, rfl, ?_, ⟨_, rfl⟩, hW, hsame.mono (by decide) (by decide)⟩
  ·skip
   refine XS.ifYes X1.here hx rfl (pc0 := 6) (pc' := 23) rfl (hb hby d31_6) rfl ((if0 _ _).trans (teq hc6_16).1) (by decide) (by decide) ?_
   refine XS.aloadN X1.here hx rfl (hb hby d31_23) rfl rfl ?_
   exact retOut X1 hx Bd.returns rfl (Or.inr (Or.inr (Or.inr (Or.inr ⟨rfl, rfl, rfl⟩)))) (hb hby d31_24) hr
  ·show QPo1 Z r0 r1 r2 eN eA eC ps crr ads sw oe efd rfd eyr ryr bt bf ic ksw yA mA dA yB mB dB zA zB h0 n0 _ T1.heap _
   exact ⟨r2, _, _, _, rfl, N1, kp14, fa5, fa6, fa7, fa8, by rw [if_neg (own_ltz hc6_16)]; exact DA⟩
 ·skip
  obtain ⟨cq17, q17, q17'⟩ := fa3.cell
  obtain ⟨_, _, ⟨T17, L17, k17, n17⟩, -, X17, ⟨Lc17, hQ17, l17, y17, z17⟩, st17⟩ := X1.privateBack hx (y := (⟨"com/example/ratabl/ratabl/engine/Lock", "firstOpen", "(Ljava/time/LocalDate;)Ljava/util/Optional;"⟩ : MethodName)) hown (mvT hZ (hq hw 171 rfl)) (mvT hZ (hq hw 172 rfl)) (own_selp (mvT hZ (hq hw 83 rfl)) (mvT hZ (hq hw 172 rfl)) (mvP hZ (hq hw 173 rfl)) (by decide)) (Cond.privateMethod_at (mvP hZ (hq hw 173 rfl) (args := #[]))) (mvT hZ (hq hw 174 rfl)) (by decide) (backOf (W := 0) (rmFO1 l Z a0 hw [] r0 r1 eN eA eC ps crr ads sw oe efd rfd eyr ryr bt bf ic ksw  T1.heap n0 z13 fa2 fa3 fa4 SS ) hZ (hq hw 174 rfl) (hq hw 80 rfl) (by decide) (by decide)) (g := (mkF m 11 #[rv r0, rv r1, rv r2] [(.ref r1), (.ref r0)])) rfl (by rw [hml]; rfl) (Steps.refl _) (a := r0) q17 q17' (argsL := [(.ref r1)]) (rest := []) (lenOf pd_22 rfl) rfl (by show 2 * 0 + _ ≤ _; exact Nat.le_of_eq rfl) (hb hby d31_11) (fun _ _ => ⟨rfl, rfl, (by decide : 3 + 1 ≤ _), (by decide : 3 + 1 ≤ _)⟩)
  dsimp only [Pt.U, Pt.locs, Pt.cells, Pt.slots] at X17 l17 y17 z17 st17 hQ17
  subst l17 y17 z17
  obtain ⟨bo17, rfl, N17q, K17, A17, Gv17⟩ := hQ17
  have N17 := Fr.app N1 N17q
  have fa18 := fa2.keep K17 all0
  have fa19 := fa3.keep K17
  have fa20 := fa4.keep K17 nin0
  have fa21 := fa5.keep K17
  have fa22 := fa6.keep K17 nin0
  have fa23 := fa7.keep K17 nin0
  have fa24 := fa8.keep K17 nin0
  have fa25 := fa9.keep K17
  have fa26 := fa10.keep K17 nin0
  have fa27 := fa11.keep K17 nin0
  have fa28 := fa12.keep K17 nin0
  have z29 : n0 ≤ T17.heap.size := Nat.le_trans z13 K17.1
  have kp30 : Keep h0 T17.heap [] := kp14.trans K17 all0
  obtain ⟨cq31, kq31, q31a, q31b, q31c⟩ := isOf hZ rfl A17
  obtain ⟨_, _, ⟨T31, L31, k31, n31⟩, -, X31, ⟨Lc31, hQ31, l31, y31, z31⟩, st31⟩ := X17.virtualBack hx (y := (⟨"java/util/Optional", "orElseThrow", "()Ljava/lang/Object;"⟩ : MethodName)) (z := (⟨"java/util/Optional", "orElseThrow", "()Ljava/lang/Object;"⟩ : MethodName)) hown (mvT hZ (hq hw 274 rfl)) (mvT hZ (hq hw 275 rfl)) (notFace_of_selects (args := #[]) (mvT hZ (hq hw 277 rfl))) (mvT hZ (hq hw 277 rfl)) (mvT hZ (hq hw 276 rfl)) (by decide) (backOf (W := 0) (rmOorElseThrow0 l Z a0 hw [] bo17 r1 T17.heap n0 z29 Gv17 ) hZ (hq hw 278 rfl) (hq hw 7 rfl) (by decide) (by decide)) q31a q31c (g := (mkF m 14 #[rv r0, rv r1, rv r2] [(.ref bo17)])) rfl (by rw [hml]; rfl) (Steps.refl _) (argsL := []) (rest := []) (lenOf pd_18 rfl) rfl (by show 2 * 0 + _ ≤ _; exact Nat.le_of_eq rfl) (hb hby d31_14) (fun _ _ => ⟨rfl, rfl, (by decide : 4 + 0 ≤ _), (by decide : 4 + 0 ≤ _)⟩)
  dsimp only [Pt.U, Pt.locs, Pt.cells, Pt.slots] at X31 l31 y31 z31 st31 hQ31
  subst l31 y31 z31
  obtain ⟨rfl, N31q, eh31⟩ := hQ31
  have N31 := Fr.app N17 N31q
  obtain ⟨T32, X32, e32, st32⟩ := castY X31 hx hZ hown (hq hw 279 rfl) eh31 (Ins.self fa25) (g := (mkF m 17 #[rv r0, rv r1, rv r2] [(.ref r1)])) rfl rfl (hb hby d31_17)
  obtain ⟨fs, hr, hrun, hended, hW, hsame⟩ := X32.leave (v := some (.ref r1)) (fun h => by rw [Bd.returns] at h; cases h)
  refine ⟨_, _, G15 _ ?_, hrun, hended, _, _, rfl, ?_, ⟨_, rfl⟩, hW, hsame.mono (by decide) (by decide)⟩
  ·skip
   refine XS.ifNo X1.here hx rfl (hb hby d31_6) rfl ((if0 _ _).trans (feq hc6_16).1) ?_
   refine XS.aloadN X1.here hx rfl (hb hby d31_9) rfl rfl ?_
   refine XS.aloadN X1.here hx rfl (hb hby d31_10) rfl rfl ?_
   refine st17.trans ?_
   refine st31.trans ?_
   refine st32 _ ?_
   refine XS.goto X32.here hx rfl (pc0 := 20) (pc' := 24) rfl (hb hby d31_20) (by decide) (by decide) ?_
   exact retOut X32 hx Bd.returns rfl (Or.inr (Or.inr (Or.inr (Or.inr ⟨rfl, rfl, rfl⟩)))) (hb hby d31_24) hr
  ·show QPo1 Z r0 r1 r2 eN eA eC ps crr ads sw oe efd rfd eyr ryr bt bf ic ksw yA mA dA yB mB dB zA zB h0 n0 _ T32.heap _
   rw [e32]
   exact ⟨r1, _, _, _, rfl, N31, kp30, fa25, fa26, fa27, fa28, by rw [if_pos (own_ltn hc6_16)]; exact DB⟩
def QPo2 (Z : State) (r0 : Addr) (r1 : Addr) (r2 : Addr) (eN eA eC ps crr ads sw oe efd rfd eyr ryr bt bf ic : Addr) (ksw : ClassId) (yA mA dA : Int32) (zA : Int) (xo xl : Addr) (yC mC dC : Int32) (zC : Int) (h0 : Heap) (n0 : Nat) (v : Option Value) (h : Heap) (L : List Loc) : Prop := ∃ (b : Addr) (y m d : Int32), v = some (.ref b) ∧ Fr n0 L ∧ Keep h0 h [] ∧ Exa Z h b "java/time/LocalDate" ∧ Fld Z h b "java/time/LocalDate" "year" "I" (.int y) ∧ Fld Z h b "java/time/LocalDate" "month" "S" (.int m) ∧ Fld Z h b "java/time/LocalDate" "day" "S" (.int d) ∧ own_dt y m d (if zA < zC + 1 then zC + 1 else zA)
theorem ef_rmPo2 (m : MethodId) (x0 : Addr) (x1 : Addr) (x2 : Addr) : entryFrame m #[(.ref x0), (.ref x1), (.ref x2)] 3 = mkF m 0 #[.val (.ref x0), .val (.ref x1), .val (.ref x2)] [] := by first | (simp [entryFrame, mkF, argsToLocals, Value.category]; done) | rfl
set_option maxRecDepth 65536 in
set_option maxHeartbeats 40000000 in
theorem rmPo2 (l : Launch) (Z : State) (a0 : Array Value) (hw : ∀ d ∈ tables_1, d.before a0 Z = true) (ws : List Jvm.Cond) (r0 : Addr) (r1 : Addr) (r2 : Addr) (eN eA eC ps crr ads sw oe efd rfd eyr ryr bt bf ic : Addr) (ksw : ClassId) (yA mA dA : Int32) (zA : Int) (xo xl : Addr) (yC mC dC : Int32) (zC : Int) (h0 : Heap) (n0 : Nat) (Z0 : n0 ≤ h0.size) (O0 : Old Z n0 h0) (El : Exa Z h0 r0 "com/example/ratabl/ratabl/engine/Lock") (Fm_ : Fld Z h0 r0 "com/example/ratabl/ratabl/engine/Lock" "method" "Lcom/example/ratabl/ratabl/model/LockDateMethod;" (.ref eC)) (Fo_ : Fld Z h0 r0 "com/example/ratabl/ratabl/engine/Lock" "lockDate" "Ljava/util/Optional;" (.ref xo)) (Eo : Exa Z h0 xo "java/util/Optional") (Fv_ : Fld Z h0 xo "java/util/Optional" "value" "Ljava/lang/Object;" (.ref xl)) (ExC : Exa Z h0 xl "java/time/LocalDate") (FyC : Fld Z h0 xl "java/time/LocalDate" "year" "I" (.int yC)) (FmC : Fld Z h0 xl "java/time/LocalDate" "month" "S" (.int mC)) (FdC : Fld Z h0 xl "java/time/LocalDate" "day" "S" (.int dC)) (ExA : Exa Z h0 r2 "java/time/LocalDate") (FyA : Fld Z h0 r2 "java/time/LocalDate" "year" "I" (.int yA)) (FmA : Fld Z h0 r2 "java/time/LocalDate" "month" "S" (.int mA)) (FdA : Fld Z h0 r2 "java/time/LocalDate" "day" "S" (.int dA)) (SS : Stw Z eN eA eC ps crr ads sw oe efd rfd eyr ryr bt bf ic ksw) (DA : own_dt yA mA dA zA) (DC : own_dt yC mC dC zC) (hz1 : zC + 1 ≤ 9000000000) :
  MetFree l (⟨"com/example/ratabl/ratabl/engine/Lock", "postsOn", "(Ljava/time/LocalDate;Ljava/time/LocalDate;)Ljava/time/LocalDate;"⟩ : MethodName) (head1 (Jvm.Cond.code (⟨"com/example/ratabl/ratabl/engine/Lock", "postsOn", "(Ljava/time/LocalDate;Ljava/time/LocalDate;)Ljava/time/LocalDate;"⟩ : MethodName) prog_38_method_5_code 3 (some (.object "java/time/LocalDate")) :: ws) ({ frames := 7, cells := 6, slots := 10, locals := 3088 } : Room)) (fun a U => a = #[(.ref r0), (.ref r1), (.ref r2)] ∧ Z.Warmed39 U.vm ∧ U.heap = h0) (fun _ _ _ _ _ => True) (fun _ U o U' => ∃ v L, o = .returned v ∧ QPo2 Z r0 r1 r2 eN eA eC ps crr ads sw oe efd rfd eyr ryr bt bf ic ksw yA mA dA zA xo xl yC mC dC zC h0 n0 v U'.heap L ∧ FrameEnd U o U' L ({ frames := 7, cells := 6, slots := 10, locals := 3088 } : Room).cells ({ frames := 7, cells := 6, slots := 10, locals := 3088 } : Room).slots) := by
 refine MetFree.of_bodySF (plainFor_of_name pnc_com_example_ratabl_ratabl_engine_Lock) hisR ?_
 intro p e s m args below meth c s₁ Bd hml0 hP hK
 obtain ⟨rfl, hZ, hh⟩ := hP
 have hx := Bd.exec
 have hby := Bd.bytes
 have hml : c.maxLocals = 3 := hml0
 have hown : s.vm.findClass "com/example/ratabl/ratabl/engine/Lock" = some m.cls := findClass_of_methodNamed Bd.named
 have hnm := (name_of_methodNamed Bd.named Bd.method).1
 have X0 : Stand p l e ({ frames := 7, cells := 6, slots := 10, locals := 3088 } : Room) s m #[(.ref r0), (.ref r1), (.ref r2)] below meth c s₁ [] 0 0 := Stand.of_body Bd
 have e0 : s₁.heap = h0 := by rw [← hh, Bd.state]; rfl
 have N0 := Fr.nil n0
 have kp0 : Keep h0 h0 [] := Keep.refl _ _
 have G0 : ∀ t, Steps p.tables e below (s₁.setTop (mkF m 0 #[rv r0, rv r1, rv r2] [])) t → Steps p.tables e below (s₁.setTop (entryFrame m #[(.ref r0), (.ref r1), (.ref r2)] 3)) t := fun t k => castTop (ef_rmPo2 m r0 r1 r2) k
 obtain ⟨cq1, kq1, q1a, q1b, q1c⟩ := isOf hZ e0 El
 obtain ⟨_, _, ⟨T1, L1, k1, n1⟩, -, X1, ⟨Lc1, hQ1, l1, y1, z1⟩, st1⟩ := X0.virtualBack hx (y := (⟨"com/example/ratabl/ratabl/engine/Lock", "closes", "(Ljava/time/LocalDate;Ljava/time/LocalDate;)Z"⟩ : MethodName)) (z := (⟨"com/example/ratabl/ratabl/engine/Lock", "closes", "(Ljava/time/LocalDate;Ljava/time/LocalDate;)Z"⟩ : MethodName)) hown (mvT hZ (hq hw 232 rfl)) (mvT hZ (hq hw 167 rfl)) (notFace_of_selects (args := #[]) (mvT hZ (hq hw 169 rfl))) (mvT hZ (hq hw 169 rfl)) (mvT hZ (hq hw 168 rfl)) (by decide) (backOf (W := 0) (rmCl2 l Z a0 hw [] r0 r1 r2 eN eA eC ps crr ads sw oe efd rfd eyr ryr bt bf ic ksw yA mA dA (zA) xo xl yC mC dC (zC) h0 n0 Z0 O0 El Fm_ Fo_ Eo Fv_ ExC FyC FmC FdC ExA FyA FmA FdA  SS DA DC hz1) hZ (hq hw 170 rfl) (hq hw 80 rfl) (by decide) (by decide)) q1a q1c (g := (mkF m 3 #[rv r0, rv r1, rv r2] [(.ref r2), (.ref r1), (.ref r0)])) rfl (by rw [hml]; rfl) (Steps.refl _) (argsL := [(.ref r1), (.ref r2)]) (rest := []) (lenOf pd_24 rfl) rfl (by show 2 * 0 + _ ≤ _; exact Nat.le_of_eq rfl) (hb hby d31_3) (fun _ _ => ⟨rfl, e0, (by decide : 0 + 4 ≤ _), (by decide : 0 + 6 ≤ _)⟩)
 dsimp only [Pt.U, Pt.locs, Pt.cells, Pt.slots] at X1 l1 y1 z1 st1 hQ1
 subst l1 y1 z1
 obtain ⟨rfl, N1q, K1⟩ := hQ1
 have N1 := Fr.app N0 N1q
 have fa2 := O0.keep K1 all0
 have fa3 := El.keep K1
 have fa4 := Fm_.keep K1 nin0
 have fa5 := Fo_.keep K1 nin0
 have fa6 := Eo.keep K1
 have fa7 := Fv_.keep K1 nin0
 have fa8 := ExC.keep K1
 have fa9 := FyC.keep K1 nin0
 have fa10 := FmC.keep K1 nin0
 have fa11 := FdC.keep K1 nin0
 have fa12 := ExA.keep K1
 have fa13 := FyA.keep K1 nin0
 have fa14 := FmA.keep K1 nin0
 have fa15 := FdA.keep K1 nin0
 have z16 : n0 ≤ T1.heap.size := Nat.le_trans Z0 K1.1
 have kp17 : Keep h0 T1.heap [] := kp0.trans K1 all0
 have G18 : ∀ t, Steps p.tables e below (T1.setTop (mkF m 6 #[rv r0, rv r1, rv r2] [(.int (own_lt (zA) (zC + 1)))])) t → Steps p.tables e below (s₁.setTop (entryFrame m #[(.ref r0), (.ref r1), (.ref r2)] 3)) t := by
  intro t kt
  refine G0 _ ?_
  refine XS.aloadN X0.here hx rfl (hb hby d31_0) rfl rfl ?_
  refine XS.aloadN X0.here hx rfl (hb hby d31_1) rfl rfl ?_
  refine XS.aloadN X0.here hx rfl (hb hby d31_2) rfl rfl ?_
  refine st1.trans ?_
  exact kt
 by_cases hc6_19 : (own_lt (zA) (zC + 1)) = (0 : Int32)
 ·skip
  obtain ⟨fs, hr, hrun, hended, hW, hsame⟩ := X1.leave (v := some (.ref r2)) (fun h => by rw [Bd.returns] at h; cases h)
  refine ⟨_, _, G18 _ ?_, hrun, hended, _, _, rfl, ?_, ⟨_, rfl⟩, hW, hsame.mono (by decide) (by decide)⟩
  ·skip
   refine XS.ifYes X1.here hx rfl (pc0 := 6) (pc' := 23) rfl (hb hby d31_6) rfl ((if0 _ _).trans (teq hc6_19).1) (by decide) (by decide) ?_
   refine XS.aloadN X1.here hx rfl (hb hby d31_23) rfl rfl ?_
   exact retOut X1 hx Bd.returns rfl (Or.inr (Or.inr (Or.inr (Or.inr ⟨rfl, rfl, rfl⟩)))) (hb hby d31_24) hr
  ·show QPo2 Z r0 r1 r2 eN eA eC ps crr ads sw oe efd rfd eyr ryr bt bf ic ksw yA mA dA zA xo xl yC mC dC zC h0 n0 _ T1.heap _
   exact ⟨r2, _, _, _, rfl, N1, kp17, fa12, fa13, fa14, fa15, by rw [if_neg (own_ltz hc6_19)]; exact DA⟩
 ·skip
  obtain ⟨cq20, q20, q20'⟩ := fa3.cell
  obtain ⟨_, _, ⟨T20, L20, k20, n20⟩, -, X20, ⟨Lc20, hQ20, l20, y20, z20⟩, st20⟩ := X1.privateBack hx (y := (⟨"com/example/ratabl/ratabl/engine/Lock", "firstOpen", "(Ljava/time/LocalDate;)Ljava/util/Optional;"⟩ : MethodName)) hown (mvT hZ (hq hw 171 rfl)) (mvT hZ (hq hw 172 rfl)) (own_selp (mvT hZ (hq hw 83 rfl)) (mvT hZ (hq hw 172 rfl)) (mvP hZ (hq hw 173 rfl)) (by decide)) (Cond.privateMethod_at (mvP hZ (hq hw 173 rfl) (args := #[]))) (mvT hZ (hq hw 174 rfl)) (by decide) (backOf (W := 0) (rmFO2 l Z a0 hw [] r0 r1 eN eA eC ps crr ads sw oe efd rfd eyr ryr bt bf ic ksw xo xl yC mC dC (zC) T1.heap n0 z16 fa2 fa3 fa4 fa5 fa6 fa7 fa8 fa9 fa10 fa11 SS DC hz1) hZ (hq hw 174 rfl) (hq hw 80 rfl) (by decide) (by decide)) (g := (mkF m 11 #[rv r0, rv r1, rv r2] [(.ref r1), (.ref r0)])) rfl (by rw [hml]; rfl) (Steps.refl _) (a := r0) q20 q20' (argsL := [(.ref r1)]) (rest := []) (lenOf pd_22 rfl) rfl (by show 2 * 0 + _ ≤ _; exact Nat.le_of_eq rfl) (hb hby d31_11) (fun _ _ => ⟨rfl, rfl, (by decide : 4 + 2 ≤ _), (by decide : 6 + 4 ≤ _)⟩)
  dsimp only [Pt.U, Pt.locs, Pt.cells, Pt.slots] at X20 l20 y20 z20 st20 hQ20
  subst l20 y20 z20
  obtain ⟨bo20, nd20, yd20, md20, dd20, rfl, N20q, K20, A20, Gv20, B20, Gy20, Gm20, Gd20, DT20⟩ := hQ20
  have N20 := Fr.app N1 N20q
  have fa21 := fa2.keep K20 all0
  have fa22 := fa3.keep K20
  have fa23 := fa4.keep K20 nin0
  have fa24 := fa5.keep K20 nin0
  have fa25 := fa6.keep K20
  have fa26 := fa7.keep K20 nin0
  have fa27 := fa8.keep K20
  have fa28 := fa9.keep K20 nin0
  have fa29 := fa10.keep K20 nin0
  have fa30 := fa11.keep K20 nin0
  have fa31 := fa12.keep K20
  have fa32 := fa13.keep K20 nin0
  have fa33 := fa14.keep K20 nin0
  have fa34 := fa15.keep K20 nin0
  have z35 : n0 ≤ T20.heap.size := Nat.le_trans z16 K20.1
  have kp36 : Keep h0 T20.heap [] := kp17.trans K20 all0
  obtain ⟨cq37, kq37, q37a, q37b, q37c⟩ := isOf hZ rfl A20
  obtain ⟨_, _, ⟨T37, L37, k37, n37⟩, -, X37, ⟨Lc37, hQ37, l37, y37, z37⟩, st37⟩ := X20.virtualBack hx (y := (⟨"java/util/Optional", "orElseThrow", "()Ljava/lang/Object;"⟩ : MethodName)) (z := (⟨"java/util/Optional", "orElseThrow", "()Ljava/lang/Object;"⟩ : MethodName)) hown (mvT hZ (hq hw 274 rfl)) (mvT hZ (hq hw 275 rfl)) (notFace_of_selects (args := #[]) (mvT hZ (hq hw 277 rfl))) (mvT hZ (hq hw 277 rfl)) (mvT hZ (hq hw 276 rfl)) (by decide) (backOf (W := 0) (rmOorElseThrow0 l Z a0 hw [] bo20 nd20 T20.heap n0 z35 Gv20 ) hZ (hq hw 278 rfl) (hq hw 7 rfl) (by decide) (by decide)) q37a q37c (g := (mkF m 14 #[rv r0, rv r1, rv r2] [(.ref bo20)])) rfl (by rw [hml]; rfl) (Steps.refl _) (argsL := []) (rest := []) (lenOf pd_18 rfl) rfl (by show 2 * 0 + _ ≤ _; exact Nat.le_of_eq rfl) (hb hby d31_14) (fun _ _ => ⟨rfl, rfl, (by decide : 6 + 0 ≤ _), (by decide : 10 + 0 ≤ _)⟩)
  dsimp only [Pt.U, Pt.locs, Pt.cells, Pt.slots] at X37 l37 y37 z37 st37 hQ37
  subst l37 y37 z37
  obtain ⟨rfl, N37q, eh37⟩ := hQ37
  have N37 := Fr.app N20 N37q
  obtain ⟨T38, X38, e38, st38⟩ := castY X37 hx hZ hown (hq hw 279 rfl) eh37 (Ins.self B20) (g := (mkF m 17 #[rv r0, rv r1, rv r2] [(.ref nd20)])) rfl rfl (hb hby d31_17)
  obtain ⟨fs, hr, hrun, hended, hW, hsame⟩ := X38.leave (v := some (.ref nd20)) (fun h => by rw [Bd.returns] at h; cases h)
  refine ⟨_, _, G18 _ ?_, hrun, hended, _, _, rfl, ?_, ⟨_, rfl⟩, hW, hsame.mono (by decide) (by decide)⟩
  ·skip
   refine XS.ifNo X1.here hx rfl (hb hby d31_6) rfl ((if0 _ _).trans (feq hc6_19).1) ?_
   refine XS.aloadN X1.here hx rfl (hb hby d31_9) rfl rfl ?_
   refine XS.aloadN X1.here hx rfl (hb hby d31_10) rfl rfl ?_
   refine st20.trans ?_
   refine st37.trans ?_
   refine st38 _ ?_
   refine XS.goto X38.here hx rfl (pc0 := 20) (pc' := 24) rfl (hb hby d31_20) (by decide) (by decide) ?_
   exact retOut X38 hx Bd.returns rfl (Or.inr (Or.inr (Or.inr (Or.inr ⟨rfl, rfl, rfl⟩)))) (hb hby d31_24) hr
  ·show QPo2 Z r0 r1 r2 eN eA eC ps crr ads sw oe efd rfd eyr ryr bt bf ic ksw yA mA dA zA xo xl yC mC dC zC h0 n0 _ T38.heap _
   rw [e38]
   exact ⟨nd20, _, _, _, rfl, N37, kp36, B20, Gy20, Gm20, Gd20, by rw [if_pos (own_ltn hc6_19)]; exact DT20⟩
theorem pd_25 : parseMethodDescriptor "()Lcom/example/ratabl/ratabl/model/Settings;" = some ⟨[], some (.object "com/example/ratabl/ratabl/model/Settings")⟩ := by decide +kernel
theorem pd_26 : parseMethodDescriptor "()Lcom/example/ratabl/ratabl/model/ProrationStrategy;" = some ⟨[], some (.object "com/example/ratabl/ratabl/model/ProrationStrategy")⟩ := by decide +kernel
theorem pd_27 : parseMethodDescriptor "()Lcom/example/ratabl/ratabl/model/CreditNoteRevenueImpact;" = some ⟨[], some (.object "com/example/ratabl/ratabl/model/CreditNoteRevenueImpact")⟩ := by decide +kernel
theorem pd_28 : parseMethodDescriptor "(Lcom/example/ratabl/ratabl/model/ProrationStrategy;Lcom/example/ratabl/ratabl/model/CreditNoteRevenueImpact;Lcom/example/ratabl/ratabl/model/LockDateMethod;Ljava/util/Optional;)V" = some ⟨[(.object "com/example/ratabl/ratabl/model/ProrationStrategy"), (.object "com/example/ratabl/ratabl/model/CreditNoteRevenueImpact"), (.object "com/example/ratabl/ratabl/model/LockDateMethod"), (.object "java/util/Optional")], none⟩ := by decide +kernel
theorem pd_29 : parseMethodDescriptor "(Lcom/example/ratabl/ratabl/model/Settings;)Lcom/example/ratabl/ratabl/engine/Lock;" = some ⟨[(.object "com/example/ratabl/ratabl/model/Settings")], some (.object "com/example/ratabl/ratabl/engine/Lock")⟩ := by decide +kernel
theorem pd_30 : parseMethodDescriptor "(Ljava/time/LocalDate;Ljava/time/LocalDate;)Ljava/time/LocalDate;" = some ⟨[(.object "java/time/LocalDate"), (.object "java/time/LocalDate")], some (.object "java/time/LocalDate")⟩ := by decide +kernel
def Q0 (Z : State) (p0 : Int32) (p1 : Int32) (p2 : Int32) (p3 : Int32) (eN eA eC ps crr ads sw oe efd rfd eyr ryr bt bf ic : Addr) (ksw : ClassId) (h0 : Heap) (n0 : Nat) (v : Option Value) (h : Heap) (L : List Loc) : Prop := v = some (.int (1 : Int32)) ∧ Fr n0 L
theorem ef_rm0 (m : MethodId) (x0 : Int32) (x1 : Int32) (x2 : Int32) (x3 : Int32) : entryFrame m #[(.int x0), (.int x1), (.int x2), (.int x3)] maxLocals = mkF m 0 #[.val (.int x0), .val (.int x1), .val (.int x2), .val (.int x3), .unset, .unset, .unset, .unset, .unset, .unset, .unset, .unset, .unset, .unset, .unset, .unset, .unset, .unset, .unset, .unset, .unset, .unset, .unset, .unset] [] := by first | (simp [entryFrame, mkF, argsToLocals, Value.category, maxLocals]; done) | rfl
theorem pnc_com_example_ratabl_ratabl_engine_LockOfPinLaw : plainName "com/example/ratabl/ratabl/engine/LockOfPinLaw" = true := by first | (simp [plainName, overriddenIn]; done) | decide +kernel
set_option maxRecDepth 65536 in
set_option maxHeartbeats 40000000 in
theorem rm0 (l : Launch) (Z : State) (a0 : Array Value) (hw : ∀ d ∈ tables_1, d.before a0 Z = true) (ws : List Jvm.Cond) (p0 : Int32) (p1 : Int32) (p2 : Int32) (p3 : Int32) (eN eA eC ps crr ads sw oe efd rfd eyr ryr bt bf ic : Addr) (ksw : ClassId) (h0 : Heap) (n0 : Nat) (Z0 : n0 ≤ h0.size) (O0 : Old Z n0 h0) (SS : Stw Z eN eA eC ps crr ads sw oe efd rfd eyr ryr bt bf ic ksw) :
  MetFree l x (head1 (Jvm.Cond.code x code maxLocals ret :: ws) room_1) (fun a U => a = #[(.int p0), (.int p1), (.int p2), (.int p3)] ∧ Z.Warmed39 U.vm ∧ U.heap = h0) (fun _ _ _ _ _ => True) (fun _ U o U' => ∃ v L, o = .returned v ∧ Q0 Z p0 p1 p2 p3 eN eA eC ps crr ads sw oe efd rfd eyr ryr bt bf ic ksw h0 n0 v U'.heap L ∧ ReturnedEndW U o U' L room_1.cells room_1.slots) := by
 refine MetFree.of_bodySF (plainFor_of_name pnc_com_example_ratabl_ratabl_engine_LockOfPinLaw) hisR ?_
 intro p e s m args below meth c s₁ Bd hml0 hP hK
 obtain ⟨rfl, hZ, hh⟩ := hP
 have hx := Bd.exec
 have hby := Bd.bytes
 have hml : c.maxLocals = 24 := hml0
 have hown : s.vm.findClass "com/example/ratabl/ratabl/engine/LockOfPinLaw" = some m.cls := findClass_of_methodNamed Bd.named
 have hnm := (name_of_methodNamed Bd.named Bd.method).1
 have X0 : Stand p l e room_1 s m #[(.int p0), (.int p1), (.int p2), (.int p3)] below meth c s₁ [] 0 0 := Stand.of_body Bd
 have e0 : s₁.heap = h0 := by rw [← hh, Bd.state]; rfl
 have N0 := Fr.nil n0
 have kp0 : Keep h0 h0 [] := Keep.refl _ _
 have G0 : ∀ t, Steps p.tables e below (s₁.setTop (mkF m 0 #[iv p0, iv p1, iv p2, iv p3, .unset, .unset, .unset, .unset, .unset, .unset, .unset, .unset, .unset, .unset, .unset, .unset, .unset, .unset, .unset, .unset, .unset, .unset, .unset, .unset] [])) t → Steps p.tables e below (s₁.setTop (entryFrame m #[(.int p0), (.int p1), (.int p2), (.int p3)] maxLocals)) t := fun t k => castTop (ef_rm0 m p0 p1 p2 p3) k
 have X0 : Stand p l e room_1 (s.setVm s.vm) m #[(.int p0), (.int p1), (.int p2), (.int p3)] below meth c s₁ [] 0 0 := X0
 have hZ : Z.Warmed39 (s.setVm s.vm).vm := hZ
 have hown : (s.setVm s.vm).vm.findClass "com/example/ratabl/ratabl/engine/LockOfPinLaw" = some m.cls := hown
 have hS : s.Since s.vm 0 := (State.WarmedH.refl s).since 0
 have hk : 0 ≤ h0.size := Nat.zero_le _
 have G1 : ∀ t, Steps p.tables e below (s₁.setTop (mkF m 1 #[iv p0, iv p1, iv p2, iv p3, .unset, .unset, .unset, .unset, .unset, .unset, .unset, .unset, .unset, .unset, .unset, .unset, .unset, .unset, .unset, .unset, .unset, .unset, .unset, .unset] [(.int p0)])) t → Steps p.tables e below (s₁.setTop (entryFrame m #[(.int p0), (.int p1), (.int p2), (.int p3)] maxLocals)) t := by
  intro t kt
  refine G0 _ ?_
  refine XS.iloadN X0.here hx rfl (hb hby at_0) rfl ?_
  exact kt
 have G2 : ∀ t, Steps p.tables e below (s₁.setTop (mkF m 8 #[iv p0, iv p1, iv p2, iv p3, iv ((p0 &&& (2147483647 : Int32)) % (3 : Int32)), .unset, .unset, .unset, .unset, .unset, .unset, .unset, .unset, .unset, .unset, .unset, .unset, .unset, .unset, .unset, .unset, .unset, .unset, .unset] [])) t → Steps p.tables e below (s₁.setTop (entryFrame m #[(.int p0), (.int p1), (.int p2), (.int p3)] maxLocals)) t := by
  intro t kt
  refine G1 _ ?_
  refine X0.ldcInt hx hown (mvT hZ (hq hw 0 rfl)) (g := (mkF m 1 #[iv p0, iv p1, iv p2, iv p3, .unset, .unset, .unset, .unset, .unset, .unset, .unset, .unset, .unset, .unset, .unset, .unset, .unset, .unset, .unset, .unset, .unset, .unset, .unset, .unset] [(.int p0)])) rfl (hb hby at_1) _ ?_
  refine XS.iand X0.here hx rfl (hb hby at_3) rfl ?_
  refine XS.iconst X0.here hx rfl (hb hby at_4) ?_
  refine iremM X0 hx rfl (hb hby at_5) rfl (by decide) ?_
  refine XS.istore X0.here hx rfl (hb hby at_6) rfl (l' := #[iv p0, iv p1, iv p2, iv p3, iv ((p0 &&& (2147483647 : Int32)) % (3 : Int32)), .unset, .unset, .unset, .unset, .unset, .unset, .unset, .unset, .unset, .unset, .unset, .unset, .unset, .unset, .unset, .unset, .unset, .unset, .unset]) rfl ?_
  exact kt
 obtain ⟨kk, hkk⟩ : ∃ z : Int32, z = ((p0 &&& (2147483647 : Int32)) % (3 : Int32)) := ⟨_, rfl⟩
 have G3 : ∀ t, Steps p.tables e below (s₁.setTop (mkF m 8 #[iv p0, iv p1, iv p2, iv p3, iv kk, .unset, .unset, .unset, .unset, .unset, .unset, .unset, .unset, .unset, .unset, .unset, .unset, .unset, .unset, .unset, .unset, .unset, .unset, .unset] [])) t → Steps p.tables e below (s₁.setTop (entryFrame m #[(.int p0), (.int p1), (.int p2), (.int p3)] maxLocals)) t := by
  intro t kt
  rw [hkk] at kt
  exact G2 t kt
 have hk3 := own_k3 p0
 rw [← hkk] at hk3
 rcases hk3 with rfl | rfl | rfl
 ·skip
  have G4 : ∀ t, Steps p.tables e below (s₁.setTop (mkF m 10 #[iv p0, iv p1, iv p2, iv p3, iv 0, .unset, .unset, .unset, .unset, .unset, .unset, .unset, .unset, .unset, .unset, .unset, .unset, .unset, .unset, .unset, .unset, .unset, .unset, .unset] [(.int (0 : Int32))])) t → Steps p.tables e below (s₁.setTop (entryFrame m #[(.int p0), (.int p1), (.int p2), (.int p3)] maxLocals)) t := by
   intro t kt
   refine G3 _ ?_
   refine XS.iload X0.here hx rfl (hb hby at_8) rfl ?_
   exact kt
  obtain ⟨T5, X5, e5, st5⟩ := getS2 X0 hx hZ hown (host := "") (Or.inl (hq hw 1 rfl)) Via.refl e0 (SS.1.ext O0.2) (g := (mkF m 13 #[iv p0, iv p1, iv p2, iv p3, iv 0, .unset, .unset, .unset, .unset, .unset, .unset, .unset, .unset, .unset, .unset, .unset, .unset, .unset, .unset, .unset, .unset, .unset, .unset, .unset] [])) rfl (hb hby at_13)
  have G6 : ∀ t, Steps p.tables e below (T5.setTop (mkF m 37 #[iv p0, iv p1, iv p2, iv p3, iv 0, rv eN, .unset, .unset, .unset, .unset, .unset, .unset, .unset, .unset, .unset, .unset, .unset, .unset, .unset, .unset, .unset, .unset, .unset, .unset] [(.int p1)])) t → Steps p.tables e below (s₁.setTop (entryFrame m #[(.int p0), (.int p1), (.int p2), (.int p3)] maxLocals)) t := by
   intro t kt
   refine G4 _ ?_
   refine XS.ifNo X0.here hx rfl (hb hby at_10) rfl ((if0 _ _).trans (teq (by decide)).2) ?_
   refine st5 _ ?_
   refine XS.goto X5.here hx rfl (pc0 := 16) (pc' := 34) rfl (hb hby at_16) (by decide) (by decide) ?_
   refine XS.astore X5.here hx rfl (hb hby at_34) rfl rfl (l' := #[iv p0, iv p1, iv p2, iv p3, iv 0, rv eN, .unset, .unset, .unset, .unset, .unset, .unset, .unset, .unset, .unset, .unset, .unset, .unset, .unset, .unset, .unset, .unset, .unset, .unset]) rfl ?_
   refine XS.iloadN X5.here hx rfl (hb hby at_36) rfl ?_
   exact kt
  have G7 : ∀ t, Steps p.tables e below (T5.setTop (mkF m 50 #[iv p0, iv p1, iv p2, iv p3, iv 0, rv eN, .val (.long ((p1 % (2932896 : Int32)).toInt64)), .second, .val (.long (p2.toInt64)), .second, .unset, .unset, .unset, .unset, .unset, .unset, .unset, .unset, .unset, .unset, .unset, .unset, .unset, .unset] [(.int (2 : Int32)), (.int (0 : Int32))])) t → Steps p.tables e below (s₁.setTop (entryFrame m #[(.int p0), (.int p1), (.int p2), (.int p3)] maxLocals)) t := by
   intro t kt
   refine G6 _ ?_
   refine X5.ldcInt hx hown (mvT hZ (hq hw 4 rfl)) (g := (mkF m 37 #[iv p0, iv p1, iv p2, iv p3, iv 0, rv eN, .unset, .unset, .unset, .unset, .unset, .unset, .unset, .unset, .unset, .unset, .unset, .unset, .unset, .unset, .unset, .unset, .unset, .unset] [(.int p1)])) rfl (hb hby at_37) _ ?_
   refine iremM X5 hx rfl (hb hby at_39) rfl (by decide) ?_
   refine XS.i2l X5.here hx rfl (hb hby at_40) rfl ?_
   refine XS.lstore X5.here hx rfl (hb hby at_41) rfl (l' := #[iv p0, iv p1, iv p2, iv p3, iv 0, rv eN, .val (.long ((p1 % (2932896 : Int32)).toInt64)), .second, .unset, .unset, .unset, .unset, .unset, .unset, .unset, .unset, .unset, .unset, .unset, .unset, .unset, .unset, .unset, .unset]) rfl ?_
   refine XS.iloadN X5.here hx rfl (hb hby at_43) rfl ?_
   refine XS.i2l X5.here hx rfl (hb hby at_44) rfl ?_
   refine XS.lstore X5.here hx rfl (hb hby at_45) rfl (l' := #[iv p0, iv p1, iv p2, iv p3, iv 0, rv eN, .val (.long ((p1 % (2932896 : Int32)).toInt64)), .second, .val (.long (p2.toInt64)), .second, .unset, .unset, .unset, .unset, .unset, .unset, .unset, .unset, .unset, .unset, .unset, .unset, .unset, .unset]) rfl ?_
   refine XS.iload X5.here hx rfl (hb hby at_47) rfl ?_
   show Steps p.tables e below (T5.setTop (mkF m 49 #[iv p0, iv p1, iv p2, iv p3, iv 0, rv eN, .val (.long ((p1 % (2932896 : Int32)).toInt64)), .second, .val (.long (p2.toInt64)), .second, .unset, .unset, .unset, .unset, .unset, .unset, .unset, .unset, .unset, .unset, .unset, .unset, .unset, .unset] [(.int (0 : Int32))])) _
   refine XS.iconst X5.here hx rfl (hb hby at_49) ?_
   exact kt
  have G8 : ∀ t, Steps p.tables e below (T5.setTop (mkF m 65 #[iv p0, iv p1, iv p2, iv p3, iv 0, rv eN, .val (.long ((p1 % (2932896 : Int32)).toInt64)), .second, .val (.long (p2.toInt64)), .second, .val (.long ((p2.toInt64) + (p3.toInt64))), .second, .unset, .unset, .unset, .unset, .unset, .unset, .unset, .unset, .unset, .unset, .unset, .unset] [])) t → Steps p.tables e below (s₁.setTop (entryFrame m #[(.int p0), (.int p1), (.int p2), (.int p3)] maxLocals)) t := by
   intro t kt
   refine G7 _ ?_
   refine XS.icmpYes X5.here hx rfl (pc0 := 50) (pc' := 58) rfl (hb hby at_50) rfl (feq (by decide)).2 (by decide) (by decide) ?_
   refine XS.lload X5.here hx rfl (hb hby at_58) rfl ?_
   refine XS.iloadN X5.here hx rfl (hb hby at_60) rfl ?_
   refine XS.i2l X5.here hx rfl (hb hby at_61) rfl ?_
   refine XS.ladd X5.here hx rfl (hb hby at_62) rfl ?_
   refine XS.lstore X5.here hx rfl (hb hby at_63) rfl (l' := #[iv p0, iv p1, iv p2, iv p3, iv 0, rv eN, .val (.long ((p1 % (2932896 : Int32)).toInt64)), .second, .val (.long (p2.toInt64)), .second, .val (.long ((p2.toInt64) + (p3.toInt64))), .second, .unset, .unset, .unset, .unset, .unset, .unset, .unset, .unset, .unset, .unset, .unset, .unset]) rfl ?_
   exact kt
  obtain ⟨ll, hll⟩ : ∃ z : Int64, z = ((p1 % (2932896 : Int32)).toInt64) := ⟨_, rfl⟩
  obtain ⟨la, hla⟩ : ∃ z : Int64, z = (p2.toInt64) := ⟨_, rfl⟩
  obtain ⟨ld, hld⟩ : ∃ z : Int64, z = ((p2.toInt64) + (p3.toInt64)) := ⟨_, rfl⟩
  have G9 : ∀ t, Steps p.tables e below (T5.setTop (mkF m 65 #[iv p0, iv p1, iv p2, iv p3, iv 0, rv eN, .val (.long ll), .second, .val (.long la), .second, .val (.long ld), .second, .unset, .unset, .unset, .unset, .unset, .unset, .unset, .unset, .unset, .unset, .unset, .unset] [])) t → Steps p.tables e below (s₁.setTop (entryFrame m #[(.int p0), (.int p1), (.int p2), (.int p3)] maxLocals)) t := by
   intro t kt
   rw [hll, hla, hld] at kt
   exact G8 t kt
  have hbl' : -2932896 < ll.toInt ∧ ll.toInt < 2932896 := by rw [hll]; exact own_bl p1
  have hba' : -2147483648 ≤ la.toInt ∧ la.toInt < 2147483648 := by rw [hla]; exact own_ba p2
  have hbd : -8589934592 ≤ ld.toInt ∧ ld.toInt ≤ 8589934592 := by rw [hld]; exact own_bd (own_ba p2) p3
  have G10 : ∀ t, Steps p.tables e below (T5.setTop (mkF m 68 #[iv p0, iv p1, iv p2, iv p3, iv 0, rv eN, .val (.long ll), .second, .val (.long la), .second, .val (.long ld), .second, .unset, .unset, .unset, .unset, .unset, .unset, .unset, .unset, .unset, .unset, .unset, .unset] [(.int (2 : Int32)), (.int (0 : Int32))])) t → Steps p.tables e below (s₁.setTop (entryFrame m #[(.int p0), (.int p1), (.int p2), (.int p3)] maxLocals)) t := by
   intro t kt
   refine G9 _ ?_
   refine XS.iload X5.here hx rfl (hb hby at_65) rfl ?_
   refine XS.iconst X5.here hx rfl (hb hby at_67) ?_
   exact kt
  have G11 : ∀ t, Steps p.tables e below (T5.setTop (mkF m 82 #[iv p0, iv p1, iv p2, iv p3, iv 0, rv eN, .val (.long ll), .second, .val (.long la), .second, .val (.long ld), .second, .unset, .unset, .unset, .unset, .unset, .unset, .unset, .unset, .unset, .unset, .unset, .unset] [])) t → Steps p.tables e below (s₁.setTop (entryFrame m #[(.int p0), (.int p1), (.int p2), (.int p3)] maxLocals)) t := by
   intro t kt
   refine G10 _ ?_
   refine XS.icmpYes X5.here hx rfl (pc0 := 68) (pc' := 82) rfl (hb hby at_68) rfl (feq (by decide)).2 (by decide) (by decide) ?_
   exact kt
  obtain ⟨_, _, ⟨T12, L12, k12, n12⟩, -, X12, ⟨Lc12, hQ12, l12, y12, z12⟩, st12⟩ := Jvm.LawKit.callS X5 hx (y := (⟨"java/util/Optional", "empty", "()Ljava/util/Optional;"⟩ : MethodName)) hown (mvT hZ (hq hw 5 rfl)) (mvT hZ (hq hw 6 rfl)) (mvT hZ (hq hw 7 rfl)) (mvT hZ (hq hw 8 rfl)) (by decide) (backOf (W := 0) (rm1 l Z a0 hw []  eN eA eC ps crr ads sw oe efd rfd eyr ryr bt bf ic ksw  h0 n0 Z0 O0  SS ) hZ (hq hw 8 rfl) (hq hw 7 rfl) (by decide) (by decide)) (g := (mkF m 82 #[iv p0, iv p1, iv p2, iv p3, iv 0, rv eN, .val (.long ll), .second, .val (.long la), .second, .val (.long ld), .second, .unset, .unset, .unset, .unset, .unset, .unset, .unset, .unset, .unset, .unset, .unset, .unset] [])) rfl (by rw [hml]; rfl) (argsL := []) (rest := []) (lenOf pd_14 rfl) rfl (by show 2 * 0 + _ ≤ _; exact Nat.le_of_eq rfl) (hb hby at_82) (fun _ _ => ⟨rfl, e5, (by decide : 0 + 0 ≤ _), (by decide : 0 + 0 ≤ _)⟩)
  dsimp only [Pt.U, Pt.locs, Pt.cells, Pt.slots] at X12 l12 y12 z12 st12 hQ12
  subst l12 y12 z12
  obtain ⟨rfl, N12q, eh12⟩ := hQ12
  have N12 := Fr.app N0 N12q
  have G13 : ∀ t, Steps p.tables e below (T12.setTop (mkF m 87 #[iv p0, iv p1, iv p2, iv p3, iv 0, rv eN, .val (.long ll), .second, .val (.long la), .second, .val (.long ld), .second, rv oe, .unset, .unset, .unset, .unset, .unset, .unset, .unset, .unset, .unset, .unset, .unset] [])) t → Steps p.tables e below (s₁.setTop (entryFrame m #[(.int p0), (.int p1), (.int p2), (.int p3)] maxLocals)) t := by
   intro t kt
   refine G11 _ ?_
   refine st12 _ ?_
   refine XS.astore X12.here hx rfl (hb hby at_85) rfl rfl (l' := #[iv p0, iv p1, iv p2, iv p3, iv 0, rv eN, .val (.long ll), .second, .val (.long la), .second, .val (.long ld), .second, rv oe, .unset, .unset, .unset, .unset, .unset, .unset, .unset, .unset, .unset, .unset, .unset]) rfl ?_
   exact kt
  obtain ⟨_, vm14, ⟨T14, L14, k14, n14⟩, -, X14, hS14, gr14, ⟨Lc14, hQ14, l14, y14, z14⟩, st14⟩ := callSS X12 hx (y := (⟨"com/example/ratabl/ratabl/model/Settings", "defaults", "()Lcom/example/ratabl/ratabl/model/Settings;"⟩ : MethodName)) hown (mvT hZ (hq hw 10 rfl)) (mvT hZ (hq hw 11 rfl)) (mvT hZ (hq hw 12 rfl)) (mvT hZ (hq hw 13 rfl)) (by decide) (backOfS (W := 0) (rm2 l Z a0 hw []  eN eA eC ps crr ads sw oe efd rfd eyr ryr bt bf ic ksw  h0 n0 Z0 O0  SS ) hZ (hq hw 13 rfl) (hq hw 12 rfl) (by decide) (by decide)) (g := (mkF m 87 #[iv p0, iv p1, iv p2, iv p3, iv 0, rv eN, .val (.long ll), .second, .val (.long la), .second, .val (.long ld), .second, rv oe, .unset, .unset, .unset, .unset, .unset, .unset, .unset, .unset, .unset, .unset, .unset] [])) rfl (by rw [hml]; rfl) (argsL := []) (rest := []) (lenOf pd_25 rfl) rfl (by show 2 * 0 + _ ≤ _; exact Nat.le_of_eq rfl) (hb hby at_87) (fun _ _ => ⟨rfl, eh12, (by decide : 0 + 11 ≤ _), (by decide : 0 + 445 ≤ _)⟩)
  dsimp only [Pt.U, Pt.locs, Pt.cells, Pt.slots] at X14 l14 y14 z14 st14 hQ14 hS14 gr14
  subst l14 y14 z14
  have hS := hS.trans hS14 (Nat.le_trans hk (by rw [← show T12.heap = h0 from eh12]; exact gr14))
  have hZ : Z.Warmed39 (s.setVm T14.vm).vm := State.Warmed39.trans hZ hS14.1
  have hown : (s.setVm T14.vm).vm.findClass "com/example/ratabl/ratabl/engine/LockOfPinLaw" = some m.cls := by rw [show (s.setVm T14.vm).vm = T14.vm from rfl, hS14.1.alike.findClass]; exact hown
  have X14 : Stand p l e room_1 (s.setVm T14.vm) m #[(.int p0), (.int p1), (.int p2), (.int p3)] below meth c T14 _ _ _ := X14
  have hk : T14.heap.size ≤ T14.heap.size := Nat.le_refl _
  obtain ⟨bs14, rfl, N14q, K14, A14, Ga14, Gc14⟩ := hQ14
  have N14 := Fr.app N12 N14q
  have fa15 := O0.keep K14 all0
  have z16 : n0 ≤ T14.heap.size := Nat.le_trans Z0 K14.1
  have kp17 : Keep h0 T14.heap [] := kp0.trans K14 all0
  obtain ⟨T18, h18, X18, e18, E18, A18, D18, -, st18⟩ := newO X14 hx hZ hown (hq hw 64 rfl) (hq hw 15 rfl) (hq hw 12 rfl) rfl (g := (mkF m 92 #[iv p0, iv p1, iv p2, iv p3, iv 0, rv eN, .val (.long ll), .second, .val (.long la), .second, .val (.long ld), .second, rv oe, rv bs14, .unset, .unset, .unset, .unset, .unset, .unset, .unset, .unset, .unset, .unset] [])) rfl (hb hby at_92) (by decide) (by decide)
  obtain ⟨b18, g18⟩ : ∃ z, z = T14.heap.size := ⟨_, rfl⟩
  rw [← g18] at A18 D18 st18
  have g_b18 : n0 ≤ b18 := Nat.le_trans z16 (Nat.le_of_eq g18.symm)
  have sz_b18 : h0.size ≤ b18 := Nat.le_trans kp17.1 (Nat.le_of_eq g18.symm)
  have ne_bs14_b18 : bs14 ≠ b18 := Nat.ne_of_lt (Nat.lt_of_lt_of_le A14.lt (Nat.le_of_eq g18.symm))
  have fa19 := fa15.ext E18
  have fa20 := A14.ext E18
  have fa21 := Ga14.ext E18
  have fa22 := Gc14.ext E18
  have z23 : n0 ≤ h18.size := Nat.le_trans z16 E18.1
  have hk := Nat.le_trans hk E18.1
  have kp24 : Keep h0 h18 [] := kp17.ext E18
  have fa25 : Fld Z h18 b18 "com/example/ratabl/ratabl/model/Settings" "allocationPartialProrationStrategy" "Lcom/example/ratabl/ratabl/model/ProrationStrategy;" .null := D18 (Or.inr (hq hw 55 rfl)) (ty := (.object "com/example/ratabl/ratabl/model/ProrationStrategy")) (by decide)
  have fa26 : Fld Z h18 b18 "com/example/ratabl/ratabl/model/Settings" "creditNoteRevenueImpact" "Lcom/example/ratabl/ratabl/model/CreditNoteRevenueImpact;" .null := D18 (Or.inr (hq hw 57 rfl)) (ty := (.object "com/example/ratabl/ratabl/model/CreditNoteRevenueImpact")) (by decide)
  have fa27 : Fld Z h18 b18 "com/example/ratabl/ratabl/model/Settings" "lockDateMethod" "Lcom/example/ratabl/ratabl/model/LockDateMethod;" .null := D18 (Or.inr (hq hw 59 rfl)) (ty := (.object "com/example/ratabl/ratabl/model/LockDateMethod")) (by decide)
  have fa28 : Fld Z h18 b18 "com/example/ratabl/ratabl/model/Settings" "customLockDate" "Ljava/util/Optional;" .null := D18 (Or.inr (hq hw 61 rfl)) (ty := (.object "java/util/Optional")) (by decide)
  have fa29 : Fld Z h18 b18 "com/example/ratabl/ratabl/model/Settings" "accountingDateSource" "Lcom/example/ratabl/ratabl/model/AccountingDateSource;" .null := D18 (Or.inr (hq hw 63 rfl)) (ty := (.object "com/example/ratabl/ratabl/model/AccountingDateSource")) (by decide)
  have G30 : ∀ t, Steps p.tables e below (T18.setTop (mkF m 98 #[iv p0, iv p1, iv p2, iv p3, iv 0, rv eN, .val (.long ll), .second, .val (.long la), .second, .val (.long ld), .second, rv oe, rv bs14, .unset, .unset, .unset, .unset, .unset, .unset, .unset, .unset, .unset, .unset] [(.ref bs14), (.ref b18), (.ref b18)])) t → Steps p.tables e below (s₁.setTop (entryFrame m #[(.int p0), (.int p1), (.int p2), (.int p3)] maxLocals)) t := by
   intro t kt
   refine G13 _ ?_
   refine st14.trans ?_
   refine XS.astore X14.here hx rfl (hb hby at_90) rfl rfl (l' := #[iv p0, iv p1, iv p2, iv p3, iv 0, rv eN, .val (.long ll), .second, .val (.long la), .second, .val (.long ld), .second, rv oe, rv bs14, .unset, .unset, .unset, .unset, .unset, .unset, .unset, .unset, .unset, .unset]) rfl ?_
   refine st18 _ ?_
   refine XS.dup X18.here hx rfl (hb hby at_95) rfl rfl ?_
   refine XS.aload X18.here hx rfl (hb hby at_96) rfl rfl ?_
   exact kt
  obtain ⟨cq31, kq31, q31a, q31b, q31c⟩ := isOf hZ e18 fa20
  obtain ⟨_, _, ⟨T31, L31, k31, n31⟩, -, X31, ⟨Lc31, hQ31, l31, y31, z31⟩, st31⟩ := X18.virtualBack hx (y := (⟨"com/example/ratabl/ratabl/model/Settings", "allocationPartialProrationStrategy", "()Lcom/example/ratabl/ratabl/model/ProrationStrategy;"⟩ : MethodName)) (z := (⟨"com/example/ratabl/ratabl/model/Settings", "allocationPartialProrationStrategy", "()Lcom/example/ratabl/ratabl/model/ProrationStrategy;"⟩ : MethodName)) hown (mvT hZ (hq hw 65 rfl)) (mvT hZ (hq hw 66 rfl)) (notFace_of_selects (args := #[]) (mvT hZ (hq hw 68 rfl))) (mvT hZ (hq hw 68 rfl)) (mvT hZ (hq hw 67 rfl)) (by decide) (backOf (W := 2) (rm7 l Z a0 hw [] bs14 ps h18 n0 z23 fa21 ) hZ (hq hw 69 rfl) (hq hw 12 rfl) (by decide) (by decide)) q31a q31c (g := (mkF m 98 #[iv p0, iv p1, iv p2, iv p3, iv 0, rv eN, .val (.long ll), .second, .val (.long la), .second, .val (.long ld), .second, rv oe, rv bs14, .unset, .unset, .unset, .unset, .unset, .unset, .unset, .unset, .unset, .unset] [(.ref bs14), (.ref b18), (.ref b18)])) rfl (by rw [hml]; rfl) (Steps.refl _) (argsL := []) (rest := [(.ref b18), (.ref b18)]) (lenOf pd_26 rfl) rfl (by show 2 * 0 + _ ≤ _; exact Nat.le_of_eq rfl) (hb hby at_98) (fun _ _ => ⟨rfl, e18, (by decide : 12 + 0 ≤ _), (by decide : 450 + 0 ≤ _)⟩)
  dsimp only [Pt.U, Pt.locs, Pt.cells, Pt.slots] at X31 l31 y31 z31 st31 hQ31
  subst l31 y31 z31
  obtain ⟨rfl, N31q, eh31⟩ := hQ31
  have N31 := Fr.app N14 N31q
  have G32 : ∀ t, Steps p.tables e below (T31.setTop (mkF m 103 #[iv p0, iv p1, iv p2, iv p3, iv 0, rv eN, .val (.long ll), .second, .val (.long la), .second, .val (.long ld), .second, rv oe, rv bs14, .unset, .unset, .unset, .unset, .unset, .unset, .unset, .unset, .unset, .unset] [(.ref bs14), (.ref ps), (.ref b18), (.ref b18)])) t → Steps p.tables e below (s₁.setTop (entryFrame m #[(.int p0), (.int p1), (.int p2), (.int p3)] maxLocals)) t := by
   intro t kt
   refine G30 _ ?_
   refine st31.trans ?_
   refine XS.aload X31.here hx rfl (hb hby at_101) rfl rfl ?_
   exact kt
  obtain ⟨cq33, kq33, q33a, q33b, q33c⟩ := isOf hZ eh31 fa20
  obtain ⟨_, _, ⟨T33, L33, k33, n33⟩, -, X33, ⟨Lc33, hQ33, l33, y33, z33⟩, st33⟩ := X31.virtualBack hx (y := (⟨"com/example/ratabl/ratabl/model/Settings", "creditNoteRevenueImpact", "()Lcom/example/ratabl/ratabl/model/CreditNoteRevenueImpact;"⟩ : MethodName)) (z := (⟨"com/example/ratabl/ratabl/model/Settings", "creditNoteRevenueImpact", "()Lcom/example/ratabl/ratabl/model/CreditNoteRevenueImpact;"⟩ : MethodName)) hown (mvT hZ (hq hw 70 rfl)) (mvT hZ (hq hw 71 rfl)) (notFace_of_selects (args := #[]) (mvT hZ (hq hw 73 rfl))) (mvT hZ (hq hw 73 rfl)) (mvT hZ (hq hw 72 rfl)) (by decide) (backOf (W := 3) (rm8 l Z a0 hw [] bs14 crr h18 n0 z23 fa22 ) hZ (hq hw 74 rfl) (hq hw 12 rfl) (by decide) (by decide)) q33a q33c (g := (mkF m 103 #[iv p0, iv p1, iv p2, iv p3, iv 0, rv eN, .val (.long ll), .second, .val (.long la), .second, .val (.long ld), .second, rv oe, rv bs14, .unset, .unset, .unset, .unset, .unset, .unset, .unset, .unset, .unset, .unset] [(.ref bs14), (.ref ps), (.ref b18), (.ref b18)])) rfl (by rw [hml]; rfl) (Steps.refl _) (argsL := []) (rest := [(.ref ps), (.ref b18), (.ref b18)]) (lenOf pd_27 rfl) rfl (by show 2 * 0 + _ ≤ _; exact Nat.le_of_eq rfl) (hb hby at_103) (fun _ _ => ⟨rfl, eh31, (by decide : 12 + 0 ≤ _), (by decide : 450 + 0 ≤ _)⟩)
  dsimp only [Pt.U, Pt.locs, Pt.cells, Pt.slots] at X33 l33 y33 z33 st33 hQ33
  subst l33 y33 z33
  obtain ⟨rfl, N33q, eh33⟩ := hQ33
  have N33 := Fr.app N31 N33q
  have G34 : ∀ t, Steps p.tables e below (T33.setTop (mkF m 110 #[iv p0, iv p1, iv p2, iv p3, iv 0, rv eN, .val (.long ll), .second, .val (.long la), .second, .val (.long ld), .second, rv oe, rv bs14, .unset, .unset, .unset, .unset, .unset, .unset, .unset, .unset, .unset, .unset] [(.ref oe), (.ref eN), (.ref crr), (.ref ps), (.ref b18), (.ref b18)])) t → Steps p.tables e below (s₁.setTop (entryFrame m #[(.int p0), (.int p1), (.int p2), (.int p3)] maxLocals)) t := by
   intro t kt
   refine G32 _ ?_
   refine st33.trans ?_
   refine XS.aload X33.here hx rfl (hb hby at_106) rfl rfl ?_
   refine XS.aload X33.here hx rfl (hb hby at_108) rfl rfl ?_
   exact kt
  obtain ⟨_, vm35, ⟨T35, L35, k35, n35⟩, -, X35, hS35, gr35, ⟨Lc35, hQ35, l35, y35, z35⟩, st35⟩ := X33.specialBackS hx (y := (⟨"com/example/ratabl/ratabl/model/Settings", "<init>", "(Lcom/example/ratabl/ratabl/model/ProrationStrategy;Lcom/example/ratabl/ratabl/model/CreditNoteRevenueImpact;Lcom/example/ratabl/ratabl/model/LockDateMethod;Ljava/util/Optional;)V"⟩ : MethodName)) rfl hown (mvT hZ (hq hw 75 rfl)) (mvT hZ (hq hw 76 rfl)) (mvT hZ (hq hw 77 rfl)) (by decide) (backOfS (W := 1) (rm9 l Z a0 hw [] b18 ps crr eN oe eN eA eC ps crr ads sw oe efd rfd eyr ryr bt bf ic ksw h18 n0 z23 A18 fa25 fa26 fa27 fa28 fa29 fa19 g_b18 SS) hZ (hq hw 77 rfl) (hq hw 12 rfl) (by decide) (by decide)) (g := (mkF m 110 #[iv p0, iv p1, iv p2, iv p3, iv 0, rv eN, .val (.long ll), .second, .val (.long la), .second, .val (.long ld), .second, rv oe, rv bs14, .unset, .unset, .unset, .unset, .unset, .unset, .unset, .unset, .unset, .unset] [(.ref oe), (.ref eN), (.ref crr), (.ref ps), (.ref b18), (.ref b18)])) rfl (by rw [hml]; rfl) (Steps.refl _) (a := b18) (argsL := [(.ref ps), (.ref crr), (.ref eN), (.ref oe)]) (rest := [(.ref b18)]) (lenOf pd_28 rfl) rfl (by show 2 * 0 + _ ≤ _; exact Nat.le_of_eq rfl) (hb hby at_110) (fun _ _ => ⟨rfl, eh33, (by decide : 12 + 10 ≤ _), (by decide : 450 + 440 ≤ _)⟩)
  dsimp only [Pt.U, Pt.locs, Pt.cells, Pt.slots] at X35 l35 y35 z35 st35 hQ35 hS35 gr35
  subst l35 y35 z35
  have hS := hS.trans hS35 (Nat.le_trans hk (by rw [← show T33.heap = h18 from eh33]; exact gr35))
  have hZ : Z.Warmed39 (s.setVm T35.vm).vm := State.Warmed39.trans hZ hS35.1
  have hown : (s.setVm T35.vm).vm.findClass "com/example/ratabl/ratabl/engine/LockOfPinLaw" = some m.cls := by rw [show (s.setVm T35.vm).vm = T35.vm from rfl, hS35.1.alike.findClass]; exact hown
  have X35 : Stand p l e room_1 (s.setVm T35.vm) m #[(.int p0), (.int p1), (.int p2), (.int p3)] below meth c T35 _ _ _ := X35
  have hk : T35.heap.size ≤ T35.heap.size := Nat.le_refl _
  obtain ⟨rfl, N35q, K35, A35, F35_0, F35_1, F35_2, F35_3⟩ := hQ35
  have N35 := Fr.app N33 N35q
  have fa36 := fa19.keep K35 (allS g_b18 all0)
  have fa37 := fa20.keep K35
  have fa38 := fa21.keep K35 (ninS ne_bs14_b18 nin0)
  have fa39 := fa22.keep K35 (ninS ne_bs14_b18 nin0)
  have fa40 := A18.keep K35
  have z41 : n0 ≤ T35.heap.size := Nat.le_trans z23 K35.1
  have kp42 : Keep h0 T35.heap [] := kp24.trans K35 (allS (Or.inr sz_b18) all0)
  have G43 : ∀ t, Steps p.tables e below (T35.setTop (mkF m 117 #[iv p0, iv p1, iv p2, iv p3, iv 0, rv eN, .val (.long ll), .second, .val (.long la), .second, .val (.long ld), .second, rv oe, rv bs14, rv b18, .unset, .unset, .unset, .unset, .unset, .unset, .unset, .unset, .unset] [(.ref b18)])) t → Steps p.tables e below (s₁.setTop (entryFrame m #[(.int p0), (.int p1), (.int p2), (.int p3)] maxLocals)) t := by
   intro t kt
   refine G34 _ ?_
   show Steps p.tables e below (T33.setTop (mkF m 110 #[iv p0, iv p1, iv p2, iv p3, iv 0, rv eN, .val (.long ll), .second, .val (.long la), .second, .val (.long ld), .second, rv oe, rv bs14, .unset, .unset, .unset, .unset, .unset, .unset, .unset, .unset, .unset, .unset] [(.ref oe), (.ref eN), (.ref crr), (.ref ps), (.ref b18), (.ref b18)])) _
   refine st35.trans ?_
   refine XS.astore X35.here hx rfl (hb hby at_113) rfl rfl (l' := #[iv p0, iv p1, iv p2, iv p3, iv 0, rv eN, .val (.long ll), .second, .val (.long la), .second, .val (.long ld), .second, rv oe, rv bs14, rv b18, .unset, .unset, .unset, .unset, .unset, .unset, .unset, .unset, .unset]) rfl ?_
   refine XS.aload X35.here hx rfl (hb hby at_115) rfl rfl ?_
   exact kt
  obtain ⟨_, _, ⟨T44, L44, k44, n44⟩, -, X44, ⟨Lc44, hQ44, l44, y44, z44⟩, st44⟩ := Jvm.LawKit.callS X35 hx (y := (⟨"com/example/ratabl/ratabl/engine/Lock", "of", "(Lcom/example/ratabl/ratabl/model/Settings;)Lcom/example/ratabl/ratabl/engine/Lock;"⟩ : MethodName)) hown (mvT hZ (hq hw 78 rfl)) (mvT hZ (hq hw 79 rfl)) (mvT hZ (hq hw 80 rfl)) (mvT hZ (hq hw 81 rfl)) (by decide) (backOf (W := 0) (rm10 l Z a0 hw [] b18 eN oe T35.heap n0 z41 fa40 F35_2 F35_3 ) hZ (hq hw 81 rfl) (hq hw 80 rfl) (by decide) (by decide)) (g := (mkF m 117 #[iv p0, iv p1, iv p2, iv p3, iv 0, rv eN, .val (.long ll), .second, .val (.long la), .second, .val (.long ld), .second, rv oe, rv bs14, rv b18, .unset, .unset, .unset, .unset, .unset, .unset, .unset, .unset, .unset] [(.ref b18)])) rfl (by rw [hml]; rfl) (argsL := [(.ref b18)]) (rest := []) (lenOf pd_29 rfl) rfl (by show 2 * 0 + _ ≤ _; exact Nat.le_of_eq rfl) (hb hby at_117) (fun _ _ => ⟨rfl, rfl, (by decide : 22 + 1 ≤ _), (by decide : 890 + 2 ≤ _)⟩)
  dsimp only [Pt.U, Pt.locs, Pt.cells, Pt.slots] at X44 l44 y44 z44 st44 hQ44
  subst l44 y44 z44
  obtain ⟨bl44, rfl, N44q, K44, A44, Gm44, Go44⟩ := hQ44
  have N44 := Fr.app N35 N44q
  have fa45 := fa36.keep K44 all0
  have fa46 := fa37.keep K44
  have fa47 := fa38.keep K44 nin0
  have fa48 := fa39.keep K44 nin0
  have fa49 := fa40.keep K44
  have fa50 := F35_0.keep K44 nin0
  have fa51 := F35_1.keep K44 nin0
  have fa52 := F35_2.keep K44 nin0
  have fa53 := F35_3.keep K44 nin0
  have z54 : n0 ≤ T44.heap.size := Nat.le_trans z41 K44.1
  have hk := Nat.le_trans hk K44.1
  have kp55 : Keep h0 T44.heap [] := kp42.trans K44 all0
  have G56 : ∀ t, Steps p.tables e below (T44.setTop (mkF m 124 #[iv p0, iv p1, iv p2, iv p3, iv 0, rv eN, .val (.long ll), .second, .val (.long la), .second, .val (.long ld), .second, rv oe, rv bs14, rv b18, rv bl44, .unset, .unset, .unset, .unset, .unset, .unset, .unset, .unset] [(.long la)])) t → Steps p.tables e below (s₁.setTop (entryFrame m #[(.int p0), (.int p1), (.int p2), (.int p3)] maxLocals)) t := by
   intro t kt
   refine G43 _ ?_
   refine st44 _ ?_
   refine XS.astore X44.here hx rfl (hb hby at_120) rfl rfl (l' := #[iv p0, iv p1, iv p2, iv p3, iv 0, rv eN, .val (.long ll), .second, .val (.long la), .second, .val (.long ld), .second, rv oe, rv bs14, rv b18, rv bl44, .unset, .unset, .unset, .unset, .unset, .unset, .unset, .unset]) rfl ?_
   refine XS.lload X44.here hx rfl (hb hby at_122) rfl ?_
   exact kt
  obtain ⟨_, _, ⟨T57, L57, k57, n57⟩, -, X57, ⟨Lc57, hQ57, l57, y57, z57⟩, st57⟩ := Jvm.LawKit.callS X44 hx (y := (⟨"java/time/LocalDate", "ofEpochDay", "(J)Ljava/time/LocalDate;"⟩ : MethodName)) hown (mvT hZ (hq hw 102 rfl)) (mvT hZ (hq hw 103 rfl)) (mvT hZ (hq hw 104 rfl)) (mvT hZ (hq hw 105 rfl)) (by decide) (backOf (W := 0) (rm14 l Z a0 hw [] la eN eA eC ps crr ads sw oe efd rfd eyr ryr bt bf ic ksw  T44.heap n0 z54 fa45  SS (by omega)) hZ (hq hw 105 rfl) (hq hw 104 rfl) (by decide) (by decide)) (g := (mkF m 124 #[iv p0, iv p1, iv p2, iv p3, iv 0, rv eN, .val (.long ll), .second, .val (.long la), .second, .val (.long ld), .second, rv oe, rv bs14, rv b18, rv bl44, .unset, .unset, .unset, .unset, .unset, .unset, .unset, .unset] [(.long la)])) rfl (by rw [hml]; rfl) (argsL := [(.long la)]) (rest := []) (lenOf pd_19 rfl) rfl (by show 2 * 0 + _ ≤ _; exact Nat.le_of_eq rfl) (hb hby at_124) (fun _ _ => ⟨rfl, rfl, (by decide : 23 + 1 ≤ _), (by decide : 892 + 3 ≤ _)⟩)
  dsimp only [Pt.U, Pt.locs, Pt.cells, Pt.slots] at X57 l57 y57 z57 st57 hQ57
  subst l57 y57 z57
  obtain ⟨bd57, yd57, md57, dd57, rfl, N57q, K57, A57, Gy57, Gm57, Gd57, DT57⟩ := hQ57
  have N57 := Fr.app N44 N57q
  have fa58 := fa45.keep K57 all0
  have fa59 := fa46.keep K57
  have fa60 := fa47.keep K57 nin0
  have fa61 := fa48.keep K57 nin0
  have fa62 := fa49.keep K57
  have fa63 := fa50.keep K57 nin0
  have fa64 := fa51.keep K57 nin0
  have fa65 := fa52.keep K57 nin0
  have fa66 := fa53.keep K57 nin0
  have fa67 := A44.keep K57
  have fa68 := Gm44.keep K57 nin0
  have fa69 := Go44.keep K57 nin0
  have z70 : n0 ≤ T57.heap.size := Nat.le_trans z54 K57.1
  have hk := Nat.le_trans hk K57.1
  have kp71 : Keep h0 T57.heap [] := kp55.trans K57 all0
  have G72 : ∀ t, Steps p.tables e below (T57.setTop (mkF m 131 #[iv p0, iv p1, iv p2, iv p3, iv 0, rv eN, .val (.long ll), .second, .val (.long la), .second, .val (.long ld), .second, rv oe, rv bs14, rv b18, rv bl44, rv bd57, .unset, .unset, .unset, .unset, .unset, .unset, .unset] [(.long ld)])) t → Steps p.tables e below (s₁.setTop (entryFrame m #[(.int p0), (.int p1), (.int p2), (.int p3)] maxLocals)) t := by
   intro t kt
   refine G56 _ ?_
   refine st57 _ ?_
   refine XS.astore X57.here hx rfl (hb hby at_127) rfl rfl (l' := #[iv p0, iv p1, iv p2, iv p3, iv 0, rv eN, .val (.long ll), .second, .val (.long la), .second, .val (.long ld), .second, rv oe, rv bs14, rv b18, rv bl44, rv bd57, .unset, .unset, .unset, .unset, .unset, .unset, .unset]) rfl ?_
   refine XS.lload X57.here hx rfl (hb hby at_129) rfl ?_
   exact kt
  obtain ⟨_, _, ⟨T73, L73, k73, n73⟩, -, X73, ⟨Lc73, hQ73, l73, y73, z73⟩, st73⟩ := Jvm.LawKit.callS X57 hx (y := (⟨"java/time/LocalDate", "ofEpochDay", "(J)Ljava/time/LocalDate;"⟩ : MethodName)) hown (mvT hZ (hq hw 102 rfl)) (mvT hZ (hq hw 103 rfl)) (mvT hZ (hq hw 104 rfl)) (mvT hZ (hq hw 105 rfl)) (by decide) (backOf (W := 0) (rm14 l Z a0 hw [] ld eN eA eC ps crr ads sw oe efd rfd eyr ryr bt bf ic ksw  T57.heap n0 z70 fa58  SS hbd) hZ (hq hw 105 rfl) (hq hw 104 rfl) (by decide) (by decide)) (g := (mkF m 131 #[iv p0, iv p1, iv p2, iv p3, iv 0, rv eN, .val (.long ll), .second, .val (.long la), .second, .val (.long ld), .second, rv oe, rv bs14, rv b18, rv bl44, rv bd57, .unset, .unset, .unset, .unset, .unset, .unset, .unset] [(.long ld)])) rfl (by rw [hml]; rfl) (argsL := [(.long ld)]) (rest := []) (lenOf pd_19 rfl) rfl (by show 2 * 0 + _ ≤ _; exact Nat.le_of_eq rfl) (hb hby at_131) (fun _ _ => ⟨rfl, rfl, (by decide : 24 + 1 ≤ _), (by decide : 895 + 3 ≤ _)⟩)
  dsimp only [Pt.U, Pt.locs, Pt.cells, Pt.slots] at X73 l73 y73 z73 st73 hQ73
  subst l73 y73 z73
  obtain ⟨bd73, yd73, md73, dd73, rfl, N73q, K73, A73, Gy73, Gm73, Gd73, DT73⟩ := hQ73
  have N73 := Fr.app N57 N73q
  have fa74 := fa58.keep K73 all0
  have fa75 := fa59.keep K73
  have fa76 := fa60.keep K73 nin0
  have fa77 := fa61.keep K73 nin0
  have fa78 := fa62.keep K73
  have fa79 := fa63.keep K73 nin0
  have fa80 := fa64.keep K73 nin0
  have fa81 := fa65.keep K73 nin0
  have fa82 := fa66.keep K73 nin0
  have fa83 := fa67.keep K73
  have fa84 := fa68.keep K73 nin0
  have fa85 := fa69.keep K73 nin0
  have fa86 := A57.keep K73
  have fa87 := Gy57.keep K73 nin0
  have fa88 := Gm57.keep K73 nin0
  have fa89 := Gd57.keep K73 nin0
  have z90 : n0 ≤ T73.heap.size := Nat.le_trans z70 K73.1
  have hk := Nat.le_trans hk K73.1
  have kp91 : Keep h0 T73.heap [] := kp71.trans K73 all0
  have G92 : ∀ t, Steps p.tables e below (T73.setTop (mkF m 142 #[iv p0, iv p1, iv p2, iv p3, iv 0, rv eN, .val (.long ll), .second, .val (.long la), .second, .val (.long ld), .second, rv oe, rv bs14, rv b18, rv bl44, rv bd57, rv bd73, .unset, .unset, .unset, .unset, .unset, .unset] [(.ref bd73), (.ref bd57), (.ref bl44)])) t → Steps p.tables e below (s₁.setTop (entryFrame m #[(.int p0), (.int p1), (.int p2), (.int p3)] maxLocals)) t := by
   intro t kt
   refine G72 _ ?_
   refine st73 _ ?_
   refine XS.astore X73.here hx rfl (hb hby at_134) rfl rfl (l' := #[iv p0, iv p1, iv p2, iv p3, iv 0, rv eN, .val (.long ll), .second, .val (.long la), .second, .val (.long ld), .second, rv oe, rv bs14, rv b18, rv bl44, rv bd57, rv bd73, .unset, .unset, .unset, .unset, .unset, .unset]) rfl ?_
   refine XS.aload X73.here hx rfl (hb hby at_136) rfl rfl ?_
   refine XS.aload X73.here hx rfl (hb hby at_138) rfl rfl ?_
   refine XS.aload X73.here hx rfl (hb hby at_140) rfl rfl ?_
   exact kt
  obtain ⟨cq93, kq93, q93a, q93b, q93c⟩ := isOf hZ rfl fa83
  obtain ⟨_, _, ⟨T93, L93, k93, n93⟩, -, X93, ⟨Lc93, hQ93, l93, y93, z93⟩, st93⟩ := X73.virtualBack hx (y := (⟨"com/example/ratabl/ratabl/engine/Lock", "closes", "(Ljava/time/LocalDate;Ljava/time/LocalDate;)Z"⟩ : MethodName)) (z := (⟨"com/example/ratabl/ratabl/engine/Lock", "closes", "(Ljava/time/LocalDate;Ljava/time/LocalDate;)Z"⟩ : MethodName)) hown (mvT hZ (hq hw 166 rfl)) (mvT hZ (hq hw 167 rfl)) (notFace_of_selects (args := #[]) (mvT hZ (hq hw 169 rfl))) (mvT hZ (hq hw 169 rfl)) (mvT hZ (hq hw 168 rfl)) (by decide) (backOf (W := 0) (rmCl0 l Z a0 hw [] bl44 bd57 bd73 eN eA eC ps crr ads sw oe efd rfd eyr ryr bt bf ic ksw yd73 md73 dd73 (ld.toInt) T73.heap n0 z90 fa74 fa83 fa84  A73 Gy73 Gm73 Gd73  SS DT73 ) hZ (hq hw 170 rfl) (hq hw 80 rfl) (by decide) (by decide)) q93a q93c (g := (mkF m 142 #[iv p0, iv p1, iv p2, iv p3, iv 0, rv eN, .val (.long ll), .second, .val (.long la), .second, .val (.long ld), .second, rv oe, rv bs14, rv b18, rv bl44, rv bd57, rv bd73, .unset, .unset, .unset, .unset, .unset, .unset] [(.ref bd73), (.ref bd57), (.ref bl44)])) rfl (by rw [hml]; rfl) (Steps.refl _) (argsL := [(.ref bd57), (.ref bd73)]) (rest := []) (lenOf pd_24 rfl) rfl (by show 2 * 0 + _ ≤ _; exact Nat.le_of_eq rfl) (hb hby at_142) (fun _ _ => ⟨rfl, rfl, (by decide : 25 + 1 ≤ _), (by decide : 898 + 1 ≤ _)⟩)
  dsimp only [Pt.U, Pt.locs, Pt.cells, Pt.slots] at X93 l93 y93 z93 st93 hQ93
  subst l93 y93 z93
  obtain ⟨rfl, N93q, K93⟩ := hQ93
  have N93 := Fr.app N73 N93q
  have fa94 := fa74.keep K93 all0
  have fa95 := fa75.keep K93
  have fa96 := fa76.keep K93 nin0
  have fa97 := fa77.keep K93 nin0
  have fa98 := fa78.keep K93
  have fa99 := fa79.keep K93 nin0
  have fa100 := fa80.keep K93 nin0
  have fa101 := fa81.keep K93 nin0
  have fa102 := fa82.keep K93 nin0
  have fa103 := fa83.keep K93
  have fa104 := fa84.keep K93 nin0
  have fa105 := fa85.keep K93 nin0
  have fa106 := fa86.keep K93
  have fa107 := fa87.keep K93 nin0
  have fa108 := fa88.keep K93 nin0
  have fa109 := fa89.keep K93 nin0
  have fa110 := A73.keep K93
  have fa111 := Gy73.keep K93 nin0
  have fa112 := Gm73.keep K93 nin0
  have fa113 := Gd73.keep K93 nin0
  have z114 : n0 ≤ T93.heap.size := Nat.le_trans z90 K93.1
  have hk := Nat.le_trans hk K93.1
  have kp115 : Keep h0 T93.heap [] := kp91.trans K93 all0
  have G116 : ∀ t, Steps p.tables e below (T93.setTop (mkF m 153 #[iv p0, iv p1, iv p2, iv p3, iv 0, rv eN, .val (.long ll), .second, .val (.long la), .second, .val (.long ld), .second, rv oe, rv bs14, rv b18, rv bl44, rv bd57, rv bd73, iv 0, .unset, .unset, .unset, .unset, .unset] [(.ref bd73), (.ref bd57), (.ref bl44)])) t → Steps p.tables e below (s₁.setTop (entryFrame m #[(.int p0), (.int p1), (.int p2), (.int p3)] maxLocals)) t := by
   intro t kt
   refine G92 _ ?_
   refine st93.trans ?_
   refine XS.istore X93.here hx rfl (hb hby at_145) rfl (l' := #[iv p0, iv p1, iv p2, iv p3, iv 0, rv eN, .val (.long ll), .second, .val (.long la), .second, .val (.long ld), .second, rv oe, rv bs14, rv b18, rv bl44, rv bd57, rv bd73, iv 0, .unset, .unset, .unset, .unset, .unset]) rfl ?_
   refine XS.aload X93.here hx rfl (hb hby at_147) rfl rfl ?_
   refine XS.aload X93.here hx rfl (hb hby at_149) rfl rfl ?_
   refine XS.aload X93.here hx rfl (hb hby at_151) rfl rfl ?_
   exact kt
  obtain ⟨cq117, kq117, q117a, q117b, q117c⟩ := isOf hZ rfl fa103
  obtain ⟨_, _, ⟨T117, L117, k117, n117⟩, -, X117, ⟨Lc117, hQ117, l117, y117, z117⟩, st117⟩ := X93.virtualBack hx (y := (⟨"com/example/ratabl/ratabl/engine/Lock", "postsOn", "(Ljava/time/LocalDate;Ljava/time/LocalDate;)Ljava/time/LocalDate;"⟩ : MethodName)) (z := (⟨"com/example/ratabl/ratabl/engine/Lock", "postsOn", "(Ljava/time/LocalDate;Ljava/time/LocalDate;)Ljava/time/LocalDate;"⟩ : MethodName)) hown (mvT hZ (hq hw 227 rfl)) (mvT hZ (hq hw 228 rfl)) (notFace_of_selects (args := #[]) (mvT hZ (hq hw 230 rfl))) (mvT hZ (hq hw 230 rfl)) (mvT hZ (hq hw 229 rfl)) (by decide) (backOf (W := 0) (rmPo0 l Z a0 hw [] bl44 bd57 bd73 eN eA eC ps crr ads sw oe efd rfd eyr ryr bt bf ic ksw yd73 md73 dd73 (ld.toInt) T93.heap n0 z114 fa94 fa103 fa104  fa110 fa111 fa112 fa113  SS DT73 ) hZ (hq hw 231 rfl) (hq hw 80 rfl) (by decide) (by decide)) q117a q117c (g := (mkF m 153 #[iv p0, iv p1, iv p2, iv p3, iv 0, rv eN, .val (.long ll), .second, .val (.long la), .second, .val (.long ld), .second, rv oe, rv bs14, rv b18, rv bl44, rv bd57, rv bd73, iv 0, .unset, .unset, .unset, .unset, .unset] [(.ref bd73), (.ref bd57), (.ref bl44)])) rfl (by rw [hml]; rfl) (Steps.refl _) (argsL := [(.ref bd57), (.ref bd73)]) (rest := []) (lenOf pd_30 rfl) rfl (by show 2 * 0 + _ ≤ _; exact Nat.le_of_eq rfl) (hb hby at_153) (fun _ _ => ⟨rfl, rfl, (by decide : 26 + 1 ≤ _), (by decide : 899 + 1 ≤ _)⟩)
  dsimp only [Pt.U, Pt.locs, Pt.cells, Pt.slots] at X117 l117 y117 z117 st117 hQ117
  subst l117 y117 z117
  obtain ⟨bd117, yd117, md117, dd117, rfl, N117q, K117, A117, Gy117, Gm117, Gd117, DT117⟩ := hQ117
  have N117 := Fr.app N93 N117q
  have fa118 := fa94.keep K117 all0
  have fa119 := fa95.keep K117
  have fa120 := fa96.keep K117 nin0
  have fa121 := fa97.keep K117 nin0
  have fa122 := fa98.keep K117
  have fa123 := fa99.keep K117 nin0
  have fa124 := fa100.keep K117 nin0
  have fa125 := fa101.keep K117 nin0
  have fa126 := fa102.keep K117 nin0
  have fa127 := fa103.keep K117
  have fa128 := fa104.keep K117 nin0
  have fa129 := fa105.keep K117 nin0
  have fa130 := fa106.keep K117
  have fa131 := fa107.keep K117 nin0
  have fa132 := fa108.keep K117 nin0
  have fa133 := fa109.keep K117 nin0
  have fa134 := fa110.keep K117
  have fa135 := fa111.keep K117 nin0
  have fa136 := fa112.keep K117 nin0
  have fa137 := fa113.keep K117 nin0
  have z138 : n0 ≤ T117.heap.size := Nat.le_trans z114 K117.1
  have hk := Nat.le_trans hk K117.1
  have kp139 : Keep h0 T117.heap [] := kp115.trans K117 all0
  have G140 : ∀ t, Steps p.tables e below (T117.setTop (mkF m 156 #[iv p0, iv p1, iv p2, iv p3, iv 0, rv eN, .val (.long ll), .second, .val (.long la), .second, .val (.long ld), .second, rv oe, rv bs14, rv b18, rv bl44, rv bd57, rv bd73, iv 0, .unset, .unset, .unset, .unset, .unset] [(.ref bd117)])) t → Steps p.tables e below (s₁.setTop (entryFrame m #[(.int p0), (.int p1), (.int p2), (.int p3)] maxLocals)) t := by
   intro t kt
   refine G116 _ ?_
   refine st117.trans ?_
   exact kt
  obtain ⟨cq141, kq141, q141a, q141b, q141c⟩ := isOf hZ rfl A117
  obtain ⟨_, _, ⟨T141, L141, k141, n141⟩, -, X141, ⟨Lc141, hQ141, l141, y141, z141⟩, st141⟩ := X117.virtualBack hx (y := (⟨"java/time/LocalDate", "toEpochDay", "()J"⟩ : MethodName)) (z := (⟨"java/time/LocalDate", "toEpochDay", "()J"⟩ : MethodName)) hown (mvT hZ (hq hw 233 rfl)) (mvT hZ (hq hw 234 rfl)) (notFace_of_selects (args := #[]) (mvT hZ (hq hw 236 rfl))) (mvT hZ (hq hw 236 rfl)) (mvT hZ (hq hw 235 rfl)) (by decide) (backOf (W := 0) (rm32 l Z a0 hw [] bd117 eN eA eC ps crr ads sw oe efd rfd eyr ryr bt bf ic ksw yd117 md117 dd117 (ld.toInt) T117.heap n0 z138 fa118 A117 Gy117 Gm117 Gd117 SS DT117) hZ (hq hw 237 rfl) (hq hw 104 rfl) (by decide) (by decide)) q141a q141c (g := (mkF m 156 #[iv p0, iv p1, iv p2, iv p3, iv 0, rv eN, .val (.long ll), .second, .val (.long la), .second, .val (.long ld), .second, rv oe, rv bs14, rv b18, rv bl44, rv bd57, rv bd73, iv 0, .unset, .unset, .unset, .unset, .unset] [(.ref bd117)])) rfl (by rw [hml]; rfl) (Steps.refl _) (argsL := []) (rest := []) (lenOf pd_0 rfl) rfl (by show 2 * 0 + _ ≤ _; exact Nat.le_of_eq rfl) (hb hby at_156) (fun _ _ => ⟨rfl, rfl, (by decide : 27 + 0 ≤ _), (by decide : 900 + 0 ≤ _)⟩)
  dsimp only [Pt.U, Pt.locs, Pt.cells, Pt.slots] at X141 l141 y141 z141 st141 hQ141
  subst l141 y141 z141
  obtain ⟨qt141, rfl, hqt141, N141q, eh141⟩ := hQ141
  have N141 := Fr.app N117 N141q
  have G142 : ∀ t, Steps p.tables e below (T141.setTop (mkF m 163 #[iv p0, iv p1, iv p2, iv p3, iv 0, rv eN, .val (.long ll), .second, .val (.long la), .second, .val (.long ld), .second, rv oe, rv bs14, rv b18, rv bl44, rv bd57, rv bd73, iv 0, .val (.long qt141), .second, .unset, .unset, .unset] [(.int (0 : Int32))])) t → Steps p.tables e below (s₁.setTop (entryFrame m #[(.int p0), (.int p1), (.int p2), (.int p3)] maxLocals)) t := by
   intro t kt
   refine G140 _ ?_
   show Steps p.tables e below (T117.setTop (mkF m 156 #[iv p0, iv p1, iv p2, iv p3, iv 0, rv eN, .val (.long ll), .second, .val (.long la), .second, .val (.long ld), .second, rv oe, rv bs14, rv b18, rv bl44, rv bd57, rv bd73, iv 0, .unset, .unset, .unset, .unset, .unset] [(.ref bd117)])) _
   refine st141.trans ?_
   refine XS.lstore X141.here hx rfl (hb hby at_159) rfl (l' := #[iv p0, iv p1, iv p2, iv p3, iv 0, rv eN, .val (.long ll), .second, .val (.long la), .second, .val (.long ld), .second, rv oe, rv bs14, rv b18, rv bl44, rv bd57, rv bd73, iv 0, .val (.long qt141), .second, .unset, .unset, .unset]) rfl ?_
   refine XS.iload X141.here hx rfl (hb hby at_161) rfl ?_
   exact kt
  have G143 : ∀ t, Steps p.tables e below (T141.setTop (mkF m 249 #[iv p0, iv p1, iv p2, iv p3, iv 0, rv eN, .val (.long ll), .second, .val (.long la), .second, .val (.long ld), .second, rv oe, rv bs14, rv b18, rv bl44, rv bd57, rv bd73, iv 0, .val (.long qt141), .second, iv 0, .val (.long ld), .second] [(.int (0 : Int32)), (.int (0 : Int32))])) t → Steps p.tables e below (s₁.setTop (entryFrame m #[(.int p0), (.int p1), (.int p2), (.int p3)] maxLocals)) t := by
   intro t kt
   refine G142 _ ?_
   refine XS.ifNo X141.here hx rfl (hb hby at_163) rfl ((if0 _ _).trans (teq (by decide)).2) ?_
   refine XS.iconst X141.here hx rfl (hb hby at_166) ?_
   refine XS.istore X141.here hx rfl (hb hby at_167) rfl (l' := #[iv p0, iv p1, iv p2, iv p3, iv 0, rv eN, .val (.long ll), .second, .val (.long la), .second, .val (.long ld), .second, rv oe, rv bs14, rv b18, rv bl44, rv bd57, rv bd73, iv 0, .val (.long qt141), .second, iv 0, .unset, .unset]) rfl ?_
   refine XS.lload X141.here hx rfl (hb hby at_169) rfl ?_
   refine XS.lstore X141.here hx rfl (hb hby at_171) rfl (l' := #[iv p0, iv p1, iv p2, iv p3, iv 0, rv eN, .val (.long ll), .second, .val (.long la), .second, .val (.long ld), .second, rv oe, rv bs14, rv b18, rv bl44, rv bd57, rv bd73, iv 0, .val (.long qt141), .second, iv 0, .val (.long ld), .second]) rfl ?_
   refine XS.goto X141.here hx rfl (pc0 := 173) (pc' := 245) rfl (hb hby at_173) (by decide) (by decide) ?_
   refine XS.iload X141.here hx rfl (hb hby at_245) rfl ?_
   refine XS.iload X141.here hx rfl (hb hby at_247) rfl ?_
   exact kt
  have G144 : ∀ t, Steps p.tables e below (T141.setTop (mkF m 257 #[iv p0, iv p1, iv p2, iv p3, iv 0, rv eN, .val (.long ll), .second, .val (.long la), .second, .val (.long ld), .second, rv oe, rv bs14, rv b18, rv bl44, rv bd57, rv bd73, iv 0, .val (.long qt141), .second, iv 0, .val (.long ld), .second] [(.int (lcmpW qt141 ld))])) t → Steps p.tables e below (s₁.setTop (entryFrame m #[(.int p0), (.int p1), (.int p2), (.int p3)] maxLocals)) t := by
   intro t kt
   refine G143 _ ?_
   refine XS.icmpNo X141.here hx rfl (hb hby at_249) rfl (teq (by decide)).2 ?_
   refine XS.lload X141.here hx rfl (hb hby at_252) rfl ?_
   refine XS.lload X141.here hx rfl (hb hby at_254) rfl ?_
   refine XS.lcmp X141.here hx rfl (hb hby at_256) rfl ?_
   exact kt
  have hc257_145 : qt141 = ld := Int64.toInt_inj.mp hqt141
  obtain ⟨fs, hr, hrun, hended, hRW⟩ := X141.leaveW (s := s) hS (by rw [show T141.heap = T117.heap from eh141]; exact hk) (v := some (.int (1 : Int32))) (fun h => by rw [Bd.returns] at h; cases h) (BodyLoose.notSynchronized Bd)
  refine ⟨_, _, G144 _ ?_, hrun, hended, _, _, rfl, ?_, hRW.1, hRW.2.1, hRW.2.2.1, hRW.2.2.2.mono (by decide) (by decide)⟩
  ·skip
   refine XS.ifNo X141.here hx rfl (hb hby at_257) rfl ((if0 _ _).trans (teq ((lw_eq _ _).mpr hc257_145)).2) ?_
   refine XS.iconst X141.here hx rfl (hb hby at_260) ?_
   refine XS.goto X141.here hx rfl (pc0 := 261) (pc' := 265) rfl (hb hby at_261) (by decide) (by decide) ?_
   exact retN X141 hx (t := .boolean) Bd.returns (by simp) (hb hby at_265) hr
  ·show Q0 Z p0 p1 p2 p3 eN eA eC ps crr ads sw oe efd rfd eyr ryr bt bf ic ksw h0 n0 _ T141.heap _
   rw [eh141]
   exact ⟨rfl, N141⟩
 ·skip
  have G146 : ∀ t, Steps p.tables e below (s₁.setTop (mkF m 10 #[iv p0, iv p1, iv p2, iv p3, iv 1, .unset, .unset, .unset, .unset, .unset, .unset, .unset, .unset, .unset, .unset, .unset, .unset, .unset, .unset, .unset, .unset, .unset, .unset, .unset] [(.int (1 : Int32))])) t → Steps p.tables e below (s₁.setTop (entryFrame m #[(.int p0), (.int p1), (.int p2), (.int p3)] maxLocals)) t := by
   intro t kt
   refine G3 _ ?_
   refine XS.iload X0.here hx rfl (hb hby at_8) rfl ?_
   exact kt
  have G147 : ∀ t, Steps p.tables e below (s₁.setTop (mkF m 22 #[iv p0, iv p1, iv p2, iv p3, iv 1, .unset, .unset, .unset, .unset, .unset, .unset, .unset, .unset, .unset, .unset, .unset, .unset, .unset, .unset, .unset, .unset, .unset, .unset, .unset] [(.int (1 : Int32)), (.int (1 : Int32))])) t → Steps p.tables e below (s₁.setTop (entryFrame m #[(.int p0), (.int p1), (.int p2), (.int p3)] maxLocals)) t := by
   intro t kt
   refine G146 _ ?_
   refine XS.ifYes X0.here hx rfl (pc0 := 10) (pc' := 19) rfl (hb hby at_10) rfl ((if0 _ _).trans (feq (by decide)).2) (by decide) (by decide) ?_
   refine XS.iload X0.here hx rfl (hb hby at_19) rfl ?_
   refine XS.iconst X0.here hx rfl (hb hby at_21) ?_
   exact kt
  obtain ⟨T148, X148, e148, st148⟩ := getS2 X0 hx hZ hown (host := "") (Or.inl (hq hw 245 rfl)) Via.refl e0 (SS.2.1.ext O0.2) (g := (mkF m 25 #[iv p0, iv p1, iv p2, iv p3, iv 1, .unset, .unset, .unset, .unset, .unset, .unset, .unset, .unset, .unset, .unset, .unset, .unset, .unset, .unset, .unset, .unset, .unset, .unset, .unset] [])) rfl (hb hby at_25)
  have G149 : ∀ t, Steps p.tables e below (T148.setTop (mkF m 37 #[iv p0, iv p1, iv p2, iv p3, iv 1, rv eA, .unset, .unset, .unset, .unset, .unset, .unset, .unset, .unset, .unset, .unset, .unset, .unset, .unset, .unset, .unset, .unset, .unset, .unset] [(.int p1)])) t → Steps p.tables e below (s₁.setTop (entryFrame m #[(.int p0), (.int p1), (.int p2), (.int p3)] maxLocals)) t := by
   intro t kt
   refine G147 _ ?_
   refine XS.icmpNo X0.here hx rfl (hb hby at_22) rfl (teq (by decide)).2 ?_
   refine st148 _ ?_
   refine XS.goto X148.here hx rfl (pc0 := 28) (pc' := 34) rfl (hb hby at_28) (by decide) (by decide) ?_
   refine XS.astore X148.here hx rfl (hb hby at_34) rfl rfl (l' := #[iv p0, iv p1, iv p2, iv p3, iv 1, rv eA, .unset, .unset, .unset, .unset, .unset, .unset, .unset, .unset, .unset, .unset, .unset, .unset, .unset, .unset, .unset, .unset, .unset, .unset]) rfl ?_
   refine XS.iloadN X148.here hx rfl (hb hby at_36) rfl ?_
   exact kt
  have G150 : ∀ t, Steps p.tables e below (T148.setTop (mkF m 50 #[iv p0, iv p1, iv p2, iv p3, iv 1, rv eA, .val (.long ((p1 % (2932896 : Int32)).toInt64)), .second, .val (.long (p2.toInt64)), .second, .unset, .unset, .unset, .unset, .unset, .unset, .unset, .unset, .unset, .unset, .unset, .unset, .unset, .unset] [(.int (2 : Int32)), (.int (1 : Int32))])) t → Steps p.tables e below (s₁.setTop (entryFrame m #[(.int p0), (.int p1), (.int p2), (.int p3)] maxLocals)) t := by
   intro t kt
   refine G149 _ ?_
   refine X148.ldcInt hx hown (mvT hZ (hq hw 4 rfl)) (g := (mkF m 37 #[iv p0, iv p1, iv p2, iv p3, iv 1, rv eA, .unset, .unset, .unset, .unset, .unset, .unset, .unset, .unset, .unset, .unset, .unset, .unset, .unset, .unset, .unset, .unset, .unset, .unset] [(.int p1)])) rfl (hb hby at_37) _ ?_
   refine iremM X148 hx rfl (hb hby at_39) rfl (by decide) ?_
   refine XS.i2l X148.here hx rfl (hb hby at_40) rfl ?_
   refine XS.lstore X148.here hx rfl (hb hby at_41) rfl (l' := #[iv p0, iv p1, iv p2, iv p3, iv 1, rv eA, .val (.long ((p1 % (2932896 : Int32)).toInt64)), .second, .unset, .unset, .unset, .unset, .unset, .unset, .unset, .unset, .unset, .unset, .unset, .unset, .unset, .unset, .unset, .unset]) rfl ?_
   refine XS.iloadN X148.here hx rfl (hb hby at_43) rfl ?_
   refine XS.i2l X148.here hx rfl (hb hby at_44) rfl ?_
   show Steps p.tables e below (T148.setTop (mkF m 45 #[iv p0, iv p1, iv p2, iv p3, iv 1, rv eA, .val (.long ((p1 % (2932896 : Int32)).toInt64)), .second, .unset, .unset, .unset, .unset, .unset, .unset, .unset, .unset, .unset, .unset, .unset, .unset, .unset, .unset, .unset, .unset] [(.long (p2.toInt64))])) _
   refine XS.lstore X148.here hx rfl (hb hby at_45) rfl (l' := #[iv p0, iv p1, iv p2, iv p3, iv 1, rv eA, .val (.long ((p1 % (2932896 : Int32)).toInt64)), .second, .val (.long (p2.toInt64)), .second, .unset, .unset, .unset, .unset, .unset, .unset, .unset, .unset, .unset, .unset, .unset, .unset, .unset, .unset]) rfl ?_
   refine XS.iload X148.here hx rfl (hb hby at_47) rfl ?_
   refine XS.iconst X148.here hx rfl (hb hby at_49) ?_
   exact kt
  have G151 : ∀ t, Steps p.tables e below (T148.setTop (mkF m 65 #[iv p0, iv p1, iv p2, iv p3, iv 1, rv eA, .val (.long ((p1 % (2932896 : Int32)).toInt64)), .second, .val (.long (p2.toInt64)), .second, .val (.long ((p2.toInt64) + (p3.toInt64))), .second, .unset, .unset, .unset, .unset, .unset, .unset, .unset, .unset, .unset, .unset, .unset, .unset] [])) t → Steps p.tables e below (s₁.setTop (entryFrame m #[(.int p0), (.int p1), (.int p2), (.int p3)] maxLocals)) t := by
   intro t kt
   refine G150 _ ?_
   refine XS.icmpYes X148.here hx rfl (pc0 := 50) (pc' := 58) rfl (hb hby at_50) rfl (feq (by decide)).2 (by decide) (by decide) ?_
   refine XS.lload X148.here hx rfl (hb hby at_58) rfl ?_
   refine XS.iloadN X148.here hx rfl (hb hby at_60) rfl ?_
   refine XS.i2l X148.here hx rfl (hb hby at_61) rfl ?_
   refine XS.ladd X148.here hx rfl (hb hby at_62) rfl ?_
   refine XS.lstore X148.here hx rfl (hb hby at_63) rfl (l' := #[iv p0, iv p1, iv p2, iv p3, iv 1, rv eA, .val (.long ((p1 % (2932896 : Int32)).toInt64)), .second, .val (.long (p2.toInt64)), .second, .val (.long ((p2.toInt64) + (p3.toInt64))), .second, .unset, .unset, .unset, .unset, .unset, .unset, .unset, .unset, .unset, .unset, .unset, .unset]) rfl ?_
   exact kt
  obtain ⟨ll, hll⟩ : ∃ z : Int64, z = ((p1 % (2932896 : Int32)).toInt64) := ⟨_, rfl⟩
  obtain ⟨la, hla⟩ : ∃ z : Int64, z = (p2.toInt64) := ⟨_, rfl⟩
  obtain ⟨ld, hld⟩ : ∃ z : Int64, z = ((p2.toInt64) + (p3.toInt64)) := ⟨_, rfl⟩
  have G152 : ∀ t, Steps p.tables e below (T148.setTop (mkF m 65 #[iv p0, iv p1, iv p2, iv p3, iv 1, rv eA, .val (.long ll), .second, .val (.long la), .second, .val (.long ld), .second, .unset, .unset, .unset, .unset, .unset, .unset, .unset, .unset, .unset, .unset, .unset, .unset] [])) t → Steps p.tables e below (s₁.setTop (entryFrame m #[(.int p0), (.int p1), (.int p2), (.int p3)] maxLocals)) t := by
   intro t kt
   rw [hll, hla, hld] at kt
   exact G151 t kt
  have hbl' : -2932896 < ll.toInt ∧ ll.toInt < 2932896 := by rw [hll]; exact own_bl p1
  have hba' : -2147483648 ≤ la.toInt ∧ la.toInt < 2147483648 := by rw [hla]; exact own_ba p2
  have hbd : -8589934592 ≤ ld.toInt ∧ ld.toInt ≤ 8589934592 := by rw [hld]; exact own_bd (own_ba p2) p3
  have G153 : ∀ t, Steps p.tables e below (T148.setTop (mkF m 68 #[iv p0, iv p1, iv p2, iv p3, iv 1, rv eA, .val (.long ll), .second, .val (.long la), .second, .val (.long ld), .second, .unset, .unset, .unset, .unset, .unset, .unset, .unset, .unset, .unset, .unset, .unset, .unset] [(.int (2 : Int32)), (.int (1 : Int32))])) t → Steps p.tables e below (s₁.setTop (entryFrame m #[(.int p0), (.int p1), (.int p2), (.int p3)] maxLocals)) t := by
   intro t kt
   refine G152 _ ?_
   refine XS.iload X148.here hx rfl (hb hby at_65) rfl ?_
   refine XS.iconst X148.here hx rfl (hb hby at_67) ?_
   exact kt
  have G154 : ∀ t, Steps p.tables e below (T148.setTop (mkF m 82 #[iv p0, iv p1, iv p2, iv p3, iv 1, rv eA, .val (.long ll), .second, .val (.long la), .second, .val (.long ld), .second, .unset, .unset, .unset, .unset, .unset, .unset, .unset, .unset, .unset, .unset, .unset, .unset] [])) t → Steps p.tables e below (s₁.setTop (entryFrame m #[(.int p0), (.int p1), (.int p2), (.int p3)] maxLocals)) t := by
   intro t kt
   refine G153 _ ?_
   refine XS.icmpYes X148.here hx rfl (pc0 := 68) (pc' := 82) rfl (hb hby at_68) rfl (feq (by decide)).2 (by decide) (by decide) ?_
   exact kt
  obtain ⟨_, _, ⟨T155, L155, k155, n155⟩, -, X155, ⟨Lc155, hQ155, l155, y155, z155⟩, st155⟩ := Jvm.LawKit.callS X148 hx (y := (⟨"java/util/Optional", "empty", "()Ljava/util/Optional;"⟩ : MethodName)) hown (mvT hZ (hq hw 5 rfl)) (mvT hZ (hq hw 6 rfl)) (mvT hZ (hq hw 7 rfl)) (mvT hZ (hq hw 8 rfl)) (by decide) (backOf (W := 0) (rm1 l Z a0 hw []  eN eA eC ps crr ads sw oe efd rfd eyr ryr bt bf ic ksw  h0 n0 Z0 O0  SS ) hZ (hq hw 8 rfl) (hq hw 7 rfl) (by decide) (by decide)) (g := (mkF m 82 #[iv p0, iv p1, iv p2, iv p3, iv 1, rv eA, .val (.long ll), .second, .val (.long la), .second, .val (.long ld), .second, .unset, .unset, .unset, .unset, .unset, .unset, .unset, .unset, .unset, .unset, .unset, .unset] [])) rfl (by rw [hml]; rfl) (argsL := []) (rest := []) (lenOf pd_14 rfl) rfl (by show 2 * 0 + _ ≤ _; exact Nat.le_of_eq rfl) (hb hby at_82) (fun _ _ => ⟨rfl, e148, (by decide : 0 + 0 ≤ _), (by decide : 0 + 0 ≤ _)⟩)
  dsimp only [Pt.U, Pt.locs, Pt.cells, Pt.slots] at X155 l155 y155 z155 st155 hQ155
  subst l155 y155 z155
  obtain ⟨rfl, N155q, eh155⟩ := hQ155
  have N155 := Fr.app N0 N155q
  have G156 : ∀ t, Steps p.tables e below (T155.setTop (mkF m 87 #[iv p0, iv p1, iv p2, iv p3, iv 1, rv eA, .val (.long ll), .second, .val (.long la), .second, .val (.long ld), .second, rv oe, .unset, .unset, .unset, .unset, .unset, .unset, .unset, .unset, .unset, .unset, .unset] [])) t → Steps p.tables e below (s₁.setTop (entryFrame m #[(.int p0), (.int p1), (.int p2), (.int p3)] maxLocals)) t := by
   intro t kt
   refine G154 _ ?_
   refine st155 _ ?_
   refine XS.astore X155.here hx rfl (hb hby at_85) rfl rfl (l' := #[iv p0, iv p1, iv p2, iv p3, iv 1, rv eA, .val (.long ll), .second, .val (.long la), .second, .val (.long ld), .second, rv oe, .unset, .unset, .unset, .unset, .unset, .unset, .unset, .unset, .unset, .unset, .unset]) rfl ?_
   exact kt
  obtain ⟨_, vm157, ⟨T157, L157, k157, n157⟩, -, X157, hS157, gr157, ⟨Lc157, hQ157, l157, y157, z157⟩, st157⟩ := callSS X155 hx (y := (⟨"com/example/ratabl/ratabl/model/Settings", "defaults", "()Lcom/example/ratabl/ratabl/model/Settings;"⟩ : MethodName)) hown (mvT hZ (hq hw 10 rfl)) (mvT hZ (hq hw 11 rfl)) (mvT hZ (hq hw 12 rfl)) (mvT hZ (hq hw 13 rfl)) (by decide) (backOfS (W := 0) (rm2 l Z a0 hw []  eN eA eC ps crr ads sw oe efd rfd eyr ryr bt bf ic ksw  h0 n0 Z0 O0  SS ) hZ (hq hw 13 rfl) (hq hw 12 rfl) (by decide) (by decide)) (g := (mkF m 87 #[iv p0, iv p1, iv p2, iv p3, iv 1, rv eA, .val (.long ll), .second, .val (.long la), .second, .val (.long ld), .second, rv oe, .unset, .unset, .unset, .unset, .unset, .unset, .unset, .unset, .unset, .unset, .unset] [])) rfl (by rw [hml]; rfl) (argsL := []) (rest := []) (lenOf pd_25 rfl) rfl (by show 2 * 0 + _ ≤ _; exact Nat.le_of_eq rfl) (hb hby at_87) (fun _ _ => ⟨rfl, eh155, (by decide : 0 + 11 ≤ _), (by decide : 0 + 445 ≤ _)⟩)
  dsimp only [Pt.U, Pt.locs, Pt.cells, Pt.slots] at X157 l157 y157 z157 st157 hQ157 hS157 gr157
  subst l157 y157 z157
  have hS := hS.trans hS157 (Nat.le_trans hk (by rw [← show T155.heap = h0 from eh155]; exact gr157))
  have hZ : Z.Warmed39 (s.setVm T157.vm).vm := State.Warmed39.trans hZ hS157.1
  have hown : (s.setVm T157.vm).vm.findClass "com/example/ratabl/ratabl/engine/LockOfPinLaw" = some m.cls := by rw [show (s.setVm T157.vm).vm = T157.vm from rfl, hS157.1.alike.findClass]; exact hown
  have X157 : Stand p l e room_1 (s.setVm T157.vm) m #[(.int p0), (.int p1), (.int p2), (.int p3)] below meth c T157 _ _ _ := X157
  have hk : T157.heap.size ≤ T157.heap.size := Nat.le_refl _
  obtain ⟨bs157, rfl, N157q, K157, A157, Ga157, Gc157⟩ := hQ157
  have N157 := Fr.app N155 N157q
  have fa158 := O0.keep K157 all0
  have z159 : n0 ≤ T157.heap.size := Nat.le_trans Z0 K157.1
  have kp160 : Keep h0 T157.heap [] := kp0.trans K157 all0
  obtain ⟨T161, h161, X161, e161, E161, A161, D161, -, st161⟩ := newO X157 hx hZ hown (hq hw 64 rfl) (hq hw 15 rfl) (hq hw 12 rfl) rfl (g := (mkF m 92 #[iv p0, iv p1, iv p2, iv p3, iv 1, rv eA, .val (.long ll), .second, .val (.long la), .second, .val (.long ld), .second, rv oe, rv bs157, .unset, .unset, .unset, .unset, .unset, .unset, .unset, .unset, .unset, .unset] [])) rfl (hb hby at_92) (by decide) (by decide)
  obtain ⟨b161, g161⟩ : ∃ z, z = T157.heap.size := ⟨_, rfl⟩
  rw [← g161] at A161 D161 st161
  have g_b161 : n0 ≤ b161 := Nat.le_trans z159 (Nat.le_of_eq g161.symm)
  have sz_b161 : h0.size ≤ b161 := Nat.le_trans kp160.1 (Nat.le_of_eq g161.symm)
  have ne_bs157_b161 : bs157 ≠ b161 := Nat.ne_of_lt (Nat.lt_of_lt_of_le A157.lt (Nat.le_of_eq g161.symm))
  have fa162 := fa158.ext E161
  have fa163 := A157.ext E161
  have fa164 := Ga157.ext E161
  have fa165 := Gc157.ext E161
  have z166 : n0 ≤ h161.size := Nat.le_trans z159 E161.1
  have hk := Nat.le_trans hk E161.1
  have kp167 : Keep h0 h161 [] := kp160.ext E161
  have fa168 : Fld Z h161 b161 "com/example/ratabl/ratabl/model/Settings" "allocationPartialProrationStrategy" "Lcom/example/ratabl/ratabl/model/ProrationStrategy;" .null := D161 (Or.inr (hq hw 55 rfl)) (ty := (.object "com/example/ratabl/ratabl/model/ProrationStrategy")) (by decide)
  have fa169 : Fld Z h161 b161 "com/example/ratabl/ratabl/model/Settings" "creditNoteRevenueImpact" "Lcom/example/ratabl/ratabl/model/CreditNoteRevenueImpact;" .null := D161 (Or.inr (hq hw 57 rfl)) (ty := (.object "com/example/ratabl/ratabl/model/CreditNoteRevenueImpact")) (by decide)
  have fa170 : Fld Z h161 b161 "com/example/ratabl/ratabl/model/Settings" "lockDateMethod" "Lcom/example/ratabl/ratabl/model/LockDateMethod;" .null := D161 (Or.inr (hq hw 59 rfl)) (ty := (.object "com/example/ratabl/ratabl/model/LockDateMethod")) (by decide)
  have fa171 : Fld Z h161 b161 "com/example/ratabl/ratabl/model/Settings" "customLockDate" "Ljava/util/Optional;" .null := D161 (Or.inr (hq hw 61 rfl)) (ty := (.object "java/util/Optional")) (by decide)
  have fa172 : Fld Z h161 b161 "com/example/ratabl/ratabl/model/Settings" "accountingDateSource" "Lcom/example/ratabl/ratabl/model/AccountingDateSource;" .null := D161 (Or.inr (hq hw 63 rfl)) (ty := (.object "com/example/ratabl/ratabl/model/AccountingDateSource")) (by decide)
  have G173 : ∀ t, Steps p.tables e below (T161.setTop (mkF m 98 #[iv p0, iv p1, iv p2, iv p3, iv 1, rv eA, .val (.long ll), .second, .val (.long la), .second, .val (.long ld), .second, rv oe, rv bs157, .unset, .unset, .unset, .unset, .unset, .unset, .unset, .unset, .unset, .unset] [(.ref bs157), (.ref b161), (.ref b161)])) t → Steps p.tables e below (s₁.setTop (entryFrame m #[(.int p0), (.int p1), (.int p2), (.int p3)] maxLocals)) t := by
   intro t kt
   refine G156 _ ?_
   refine st157.trans ?_
   refine XS.astore X157.here hx rfl (hb hby at_90) rfl rfl (l' := #[iv p0, iv p1, iv p2, iv p3, iv 1, rv eA, .val (.long ll), .second, .val (.long la), .second, .val (.long ld), .second, rv oe, rv bs157, .unset, .unset, .unset, .unset, .unset, .unset, .unset, .unset, .unset, .unset]) rfl ?_
   refine st161 _ ?_
   refine XS.dup X161.here hx rfl (hb hby at_95) rfl rfl ?_
   refine XS.aload X161.here hx rfl (hb hby at_96) rfl rfl ?_
   exact kt
  obtain ⟨cq174, kq174, q174a, q174b, q174c⟩ := isOf hZ e161 fa163
  obtain ⟨_, _, ⟨T174, L174, k174, n174⟩, -, X174, ⟨Lc174, hQ174, l174, y174, z174⟩, st174⟩ := X161.virtualBack hx (y := (⟨"com/example/ratabl/ratabl/model/Settings", "allocationPartialProrationStrategy", "()Lcom/example/ratabl/ratabl/model/ProrationStrategy;"⟩ : MethodName)) (z := (⟨"com/example/ratabl/ratabl/model/Settings", "allocationPartialProrationStrategy", "()Lcom/example/ratabl/ratabl/model/ProrationStrategy;"⟩ : MethodName)) hown (mvT hZ (hq hw 65 rfl)) (mvT hZ (hq hw 66 rfl)) (notFace_of_selects (args := #[]) (mvT hZ (hq hw 68 rfl))) (mvT hZ (hq hw 68 rfl)) (mvT hZ (hq hw 67 rfl)) (by decide) (backOf (W := 2) (rm7 l Z a0 hw [] bs157 ps h161 n0 z166 fa164 ) hZ (hq hw 69 rfl) (hq hw 12 rfl) (by decide) (by decide)) q174a q174c (g := (mkF m 98 #[iv p0, iv p1, iv p2, iv p3, iv 1, rv eA, .val (.long ll), .second, .val (.long la), .second, .val (.long ld), .second, rv oe, rv bs157, .unset, .unset, .unset, .unset, .unset, .unset, .unset, .unset, .unset, .unset] [(.ref bs157), (.ref b161), (.ref b161)])) rfl (by rw [hml]; rfl) (Steps.refl _) (argsL := []) (rest := [(.ref b161), (.ref b161)]) (lenOf pd_26 rfl) rfl (by show 2 * 0 + _ ≤ _; exact Nat.le_of_eq rfl) (hb hby at_98) (fun _ _ => ⟨rfl, e161, (by decide : 12 + 0 ≤ _), (by decide : 450 + 0 ≤ _)⟩)
  dsimp only [Pt.U, Pt.locs, Pt.cells, Pt.slots] at X174 l174 y174 z174 st174 hQ174
  subst l174 y174 z174
  obtain ⟨rfl, N174q, eh174⟩ := hQ174
  have N174 := Fr.app N157 N174q
  have G175 : ∀ t, Steps p.tables e below (T174.setTop (mkF m 103 #[iv p0, iv p1, iv p2, iv p3, iv 1, rv eA, .val (.long ll), .second, .val (.long la), .second, .val (.long ld), .second, rv oe, rv bs157, .unset, .unset, .unset, .unset, .unset, .unset, .unset, .unset, .unset, .unset] [(.ref bs157), (.ref ps), (.ref b161), (.ref b161)])) t → Steps p.tables e below (s₁.setTop (entryFrame m #[(.int p0), (.int p1), (.int p2), (.int p3)] maxLocals)) t := by
   intro t kt
   refine G173 _ ?_
   refine st174.trans ?_
   refine XS.aload X174.here hx rfl (hb hby at_101) rfl rfl ?_
   exact kt
  obtain ⟨cq176, kq176, q176a, q176b, q176c⟩ := isOf hZ eh174 fa163
  obtain ⟨_, _, ⟨T176, L176, k176, n176⟩, -, X176, ⟨Lc176, hQ176, l176, y176, z176⟩, st176⟩ := X174.virtualBack hx (y := (⟨"com/example/ratabl/ratabl/model/Settings", "creditNoteRevenueImpact", "()Lcom/example/ratabl/ratabl/model/CreditNoteRevenueImpact;"⟩ : MethodName)) (z := (⟨"com/example/ratabl/ratabl/model/Settings", "creditNoteRevenueImpact", "()Lcom/example/ratabl/ratabl/model/CreditNoteRevenueImpact;"⟩ : MethodName)) hown (mvT hZ (hq hw 70 rfl)) (mvT hZ (hq hw 71 rfl)) (notFace_of_selects (args := #[]) (mvT hZ (hq hw 73 rfl))) (mvT hZ (hq hw 73 rfl)) (mvT hZ (hq hw 72 rfl)) (by decide) (backOf (W := 3) (rm8 l Z a0 hw [] bs157 crr h161 n0 z166 fa165 ) hZ (hq hw 74 rfl) (hq hw 12 rfl) (by decide) (by decide)) q176a q176c (g := (mkF m 103 #[iv p0, iv p1, iv p2, iv p3, iv 1, rv eA, .val (.long ll), .second, .val (.long la), .second, .val (.long ld), .second, rv oe, rv bs157, .unset, .unset, .unset, .unset, .unset, .unset, .unset, .unset, .unset, .unset] [(.ref bs157), (.ref ps), (.ref b161), (.ref b161)])) rfl (by rw [hml]; rfl) (Steps.refl _) (argsL := []) (rest := [(.ref ps), (.ref b161), (.ref b161)]) (lenOf pd_27 rfl) rfl (by show 2 * 0 + _ ≤ _; exact Nat.le_of_eq rfl) (hb hby at_103) (fun _ _ => ⟨rfl, eh174, (by decide : 12 + 0 ≤ _), (by decide : 450 + 0 ≤ _)⟩)
  dsimp only [Pt.U, Pt.locs, Pt.cells, Pt.slots] at X176 l176 y176 z176 st176 hQ176
  subst l176 y176 z176
  obtain ⟨rfl, N176q, eh176⟩ := hQ176
  have N176 := Fr.app N174 N176q
  have G177 : ∀ t, Steps p.tables e below (T176.setTop (mkF m 110 #[iv p0, iv p1, iv p2, iv p3, iv 1, rv eA, .val (.long ll), .second, .val (.long la), .second, .val (.long ld), .second, rv oe, rv bs157, .unset, .unset, .unset, .unset, .unset, .unset, .unset, .unset, .unset, .unset] [(.ref oe), (.ref eA), (.ref crr), (.ref ps), (.ref b161), (.ref b161)])) t → Steps p.tables e below (s₁.setTop (entryFrame m #[(.int p0), (.int p1), (.int p2), (.int p3)] maxLocals)) t := by
   intro t kt
   refine G175 _ ?_
   refine st176.trans ?_
   show Steps p.tables e below (T176.setTop (mkF m 106 #[iv p0, iv p1, iv p2, iv p3, iv 1, rv eA, .val (.long ll), .second, .val (.long la), .second, .val (.long ld), .second, rv oe, rv bs157, .unset, .unset, .unset, .unset, .unset, .unset, .unset, .unset, .unset, .unset] [(.ref crr), (.ref ps), (.ref b161), (.ref b161)])) _
   refine XS.aload X176.here hx rfl (hb hby at_106) rfl rfl ?_
   refine XS.aload X176.here hx rfl (hb hby at_108) rfl rfl ?_
   exact kt
  obtain ⟨_, vm178, ⟨T178, L178, k178, n178⟩, -, X178, hS178, gr178, ⟨Lc178, hQ178, l178, y178, z178⟩, st178⟩ := X176.specialBackS hx (y := (⟨"com/example/ratabl/ratabl/model/Settings", "<init>", "(Lcom/example/ratabl/ratabl/model/ProrationStrategy;Lcom/example/ratabl/ratabl/model/CreditNoteRevenueImpact;Lcom/example/ratabl/ratabl/model/LockDateMethod;Ljava/util/Optional;)V"⟩ : MethodName)) rfl hown (mvT hZ (hq hw 75 rfl)) (mvT hZ (hq hw 76 rfl)) (mvT hZ (hq hw 77 rfl)) (by decide) (backOfS (W := 1) (rm9 l Z a0 hw [] b161 ps crr eA oe eN eA eC ps crr ads sw oe efd rfd eyr ryr bt bf ic ksw h161 n0 z166 A161 fa168 fa169 fa170 fa171 fa172 fa162 g_b161 SS) hZ (hq hw 77 rfl) (hq hw 12 rfl) (by decide) (by decide)) (g := (mkF m 110 #[iv p0, iv p1, iv p2, iv p3, iv 1, rv eA, .val (.long ll), .second, .val (.long la), .second, .val (.long ld), .second, rv oe, rv bs157, .unset, .unset, .unset, .unset, .unset, .unset, .unset, .unset, .unset, .unset] [(.ref oe), (.ref eA), (.ref crr), (.ref ps), (.ref b161), (.ref b161)])) rfl (by rw [hml]; rfl) (Steps.refl _) (a := b161) (argsL := [(.ref ps), (.ref crr), (.ref eA), (.ref oe)]) (rest := [(.ref b161)]) (lenOf pd_28 rfl) rfl (by show 2 * 0 + _ ≤ _; exact Nat.le_of_eq rfl) (hb hby at_110) (fun _ _ => ⟨rfl, eh176, (by decide : 12 + 10 ≤ _), (by decide : 450 + 440 ≤ _)⟩)
  dsimp only [Pt.U, Pt.locs, Pt.cells, Pt.slots] at X178 l178 y178 z178 st178 hQ178 hS178 gr178
  subst l178 y178 z178
  have hS := hS.trans hS178 (Nat.le_trans hk (by rw [← show T176.heap = h161 from eh176]; exact gr178))
  have hZ : Z.Warmed39 (s.setVm T178.vm).vm := State.Warmed39.trans hZ hS178.1
  have hown : (s.setVm T178.vm).vm.findClass "com/example/ratabl/ratabl/engine/LockOfPinLaw" = some m.cls := by rw [show (s.setVm T178.vm).vm = T178.vm from rfl, hS178.1.alike.findClass]; exact hown
  have X178 : Stand p l e room_1 (s.setVm T178.vm) m #[(.int p0), (.int p1), (.int p2), (.int p3)] below meth c T178 _ _ _ := X178
  have hk : T178.heap.size ≤ T178.heap.size := Nat.le_refl _
  obtain ⟨rfl, N178q, K178, A178, F178_0, F178_1, F178_2, F178_3⟩ := hQ178
  have N178 := Fr.app N176 N178q
  have fa179 := fa162.keep K178 (allS g_b161 all0)
  have fa180 := fa163.keep K178
  have fa181 := fa164.keep K178 (ninS ne_bs157_b161 nin0)
  have fa182 := fa165.keep K178 (ninS ne_bs157_b161 nin0)
  have fa183 := A161.keep K178
  have z184 : n0 ≤ T178.heap.size := Nat.le_trans z166 K178.1
  have kp185 : Keep h0 T178.heap [] := kp167.trans K178 (allS (Or.inr sz_b161) all0)
  have G186 : ∀ t, Steps p.tables e below (T178.setTop (mkF m 117 #[iv p0, iv p1, iv p2, iv p3, iv 1, rv eA, .val (.long ll), .second, .val (.long la), .second, .val (.long ld), .second, rv oe, rv bs157, rv b161, .unset, .unset, .unset, .unset, .unset, .unset, .unset, .unset, .unset] [(.ref b161)])) t → Steps p.tables e below (s₁.setTop (entryFrame m #[(.int p0), (.int p1), (.int p2), (.int p3)] maxLocals)) t := by
   intro t kt
   refine G177 _ ?_
   refine st178.trans ?_
   refine XS.astore X178.here hx rfl (hb hby at_113) rfl rfl (l' := #[iv p0, iv p1, iv p2, iv p3, iv 1, rv eA, .val (.long ll), .second, .val (.long la), .second, .val (.long ld), .second, rv oe, rv bs157, rv b161, .unset, .unset, .unset, .unset, .unset, .unset, .unset, .unset, .unset]) rfl ?_
   refine XS.aload X178.here hx rfl (hb hby at_115) rfl rfl ?_
   exact kt
  obtain ⟨_, _, ⟨T187, L187, k187, n187⟩, -, X187, ⟨Lc187, hQ187, l187, y187, z187⟩, st187⟩ := Jvm.LawKit.callS X178 hx (y := (⟨"com/example/ratabl/ratabl/engine/Lock", "of", "(Lcom/example/ratabl/ratabl/model/Settings;)Lcom/example/ratabl/ratabl/engine/Lock;"⟩ : MethodName)) hown (mvT hZ (hq hw 78 rfl)) (mvT hZ (hq hw 79 rfl)) (mvT hZ (hq hw 80 rfl)) (mvT hZ (hq hw 81 rfl)) (by decide) (backOf (W := 0) (rm10 l Z a0 hw [] b161 eA oe T178.heap n0 z184 fa183 F178_2 F178_3 ) hZ (hq hw 81 rfl) (hq hw 80 rfl) (by decide) (by decide)) (g := (mkF m 117 #[iv p0, iv p1, iv p2, iv p3, iv 1, rv eA, .val (.long ll), .second, .val (.long la), .second, .val (.long ld), .second, rv oe, rv bs157, rv b161, .unset, .unset, .unset, .unset, .unset, .unset, .unset, .unset, .unset] [(.ref b161)])) rfl (by rw [hml]; rfl) (argsL := [(.ref b161)]) (rest := []) (lenOf pd_29 rfl) rfl (by show 2 * 0 + _ ≤ _; exact Nat.le_of_eq rfl) (hb hby at_117) (fun _ _ => ⟨rfl, rfl, (by decide : 22 + 1 ≤ _), (by decide : 890 + 2 ≤ _)⟩)
  dsimp only [Pt.U, Pt.locs, Pt.cells, Pt.slots] at X187 l187 y187 z187 st187 hQ187
  subst l187 y187 z187
  obtain ⟨bl187, rfl, N187q, K187, A187, Gm187, Go187⟩ := hQ187
  have N187 := Fr.app N178 N187q
  have fa188 := fa179.keep K187 all0
  have fa189 := fa180.keep K187
  have fa190 := fa181.keep K187 nin0
  have fa191 := fa182.keep K187 nin0
  have fa192 := fa183.keep K187
  have fa193 := F178_0.keep K187 nin0
  have fa194 := F178_1.keep K187 nin0
  have fa195 := F178_2.keep K187 nin0
  have fa196 := F178_3.keep K187 nin0
  have z197 : n0 ≤ T187.heap.size := Nat.le_trans z184 K187.1
  have hk := Nat.le_trans hk K187.1
  have kp198 : Keep h0 T187.heap [] := kp185.trans K187 all0
  have G199 : ∀ t, Steps p.tables e below (T187.setTop (mkF m 124 #[iv p0, iv p1, iv p2, iv p3, iv 1, rv eA, .val (.long ll), .second, .val (.long la), .second, .val (.long ld), .second, rv oe, rv bs157, rv b161, rv bl187, .unset, .unset, .unset, .unset, .unset, .unset, .unset, .unset] [(.long la)])) t → Steps p.tables e below (s₁.setTop (entryFrame m #[(.int p0), (.int p1), (.int p2), (.int p3)] maxLocals)) t := by
   intro t kt
   refine G186 _ ?_
   refine st187 _ ?_
   refine XS.astore X187.here hx rfl (hb hby at_120) rfl rfl (l' := #[iv p0, iv p1, iv p2, iv p3, iv 1, rv eA, .val (.long ll), .second, .val (.long la), .second, .val (.long ld), .second, rv oe, rv bs157, rv b161, rv bl187, .unset, .unset, .unset, .unset, .unset, .unset, .unset, .unset]) rfl ?_
   refine XS.lload X187.here hx rfl (hb hby at_122) rfl ?_
   exact kt
  obtain ⟨_, _, ⟨T200, L200, k200, n200⟩, -, X200, ⟨Lc200, hQ200, l200, y200, z200⟩, st200⟩ := Jvm.LawKit.callS X187 hx (y := (⟨"java/time/LocalDate", "ofEpochDay", "(J)Ljava/time/LocalDate;"⟩ : MethodName)) hown (mvT hZ (hq hw 102 rfl)) (mvT hZ (hq hw 103 rfl)) (mvT hZ (hq hw 104 rfl)) (mvT hZ (hq hw 105 rfl)) (by decide) (backOf (W := 0) (rm14 l Z a0 hw [] la eN eA eC ps crr ads sw oe efd rfd eyr ryr bt bf ic ksw  T187.heap n0 z197 fa188  SS (by omega)) hZ (hq hw 105 rfl) (hq hw 104 rfl) (by decide) (by decide)) (g := (mkF m 124 #[iv p0, iv p1, iv p2, iv p3, iv 1, rv eA, .val (.long ll), .second, .val (.long la), .second, .val (.long ld), .second, rv oe, rv bs157, rv b161, rv bl187, .unset, .unset, .unset, .unset, .unset, .unset, .unset, .unset] [(.long la)])) rfl (by rw [hml]; rfl) (argsL := [(.long la)]) (rest := []) (lenOf pd_19 rfl) rfl (by show 2 * 0 + _ ≤ _; exact Nat.le_of_eq rfl) (hb hby at_124) (fun _ _ => ⟨rfl, rfl, (by decide : 23 + 1 ≤ _), (by decide : 892 + 3 ≤ _)⟩)
  dsimp only [Pt.U, Pt.locs, Pt.cells, Pt.slots] at X200 l200 y200 z200 st200 hQ200
  subst l200 y200 z200
  obtain ⟨bd200, yd200, md200, dd200, rfl, N200q, K200, A200, Gy200, Gm200, Gd200, DT200⟩ := hQ200
  have N200 := Fr.app N187 N200q
  have fa201 := fa188.keep K200 all0
  have fa202 := fa189.keep K200
  have fa203 := fa190.keep K200 nin0
  have fa204 := fa191.keep K200 nin0
  have fa205 := fa192.keep K200
  have fa206 := fa193.keep K200 nin0
  have fa207 := fa194.keep K200 nin0
  have fa208 := fa195.keep K200 nin0
  have fa209 := fa196.keep K200 nin0
  have fa210 := A187.keep K200
  have fa211 := Gm187.keep K200 nin0
  have fa212 := Go187.keep K200 nin0
  have z213 : n0 ≤ T200.heap.size := Nat.le_trans z197 K200.1
  have hk := Nat.le_trans hk K200.1
  have kp214 : Keep h0 T200.heap [] := kp198.trans K200 all0
  have G215 : ∀ t, Steps p.tables e below (T200.setTop (mkF m 131 #[iv p0, iv p1, iv p2, iv p3, iv 1, rv eA, .val (.long ll), .second, .val (.long la), .second, .val (.long ld), .second, rv oe, rv bs157, rv b161, rv bl187, rv bd200, .unset, .unset, .unset, .unset, .unset, .unset, .unset] [(.long ld)])) t → Steps p.tables e below (s₁.setTop (entryFrame m #[(.int p0), (.int p1), (.int p2), (.int p3)] maxLocals)) t := by
   intro t kt
   refine G199 _ ?_
   refine st200 _ ?_
   refine XS.astore X200.here hx rfl (hb hby at_127) rfl rfl (l' := #[iv p0, iv p1, iv p2, iv p3, iv 1, rv eA, .val (.long ll), .second, .val (.long la), .second, .val (.long ld), .second, rv oe, rv bs157, rv b161, rv bl187, rv bd200, .unset, .unset, .unset, .unset, .unset, .unset, .unset]) rfl ?_
   refine XS.lload X200.here hx rfl (hb hby at_129) rfl ?_
   exact kt
  obtain ⟨_, _, ⟨T216, L216, k216, n216⟩, -, X216, ⟨Lc216, hQ216, l216, y216, z216⟩, st216⟩ := Jvm.LawKit.callS X200 hx (y := (⟨"java/time/LocalDate", "ofEpochDay", "(J)Ljava/time/LocalDate;"⟩ : MethodName)) hown (mvT hZ (hq hw 102 rfl)) (mvT hZ (hq hw 103 rfl)) (mvT hZ (hq hw 104 rfl)) (mvT hZ (hq hw 105 rfl)) (by decide) (backOf (W := 0) (rm14 l Z a0 hw [] ld eN eA eC ps crr ads sw oe efd rfd eyr ryr bt bf ic ksw  T200.heap n0 z213 fa201  SS hbd) hZ (hq hw 105 rfl) (hq hw 104 rfl) (by decide) (by decide)) (g := (mkF m 131 #[iv p0, iv p1, iv p2, iv p3, iv 1, rv eA, .val (.long ll), .second, .val (.long la), .second, .val (.long ld), .second, rv oe, rv bs157, rv b161, rv bl187, rv bd200, .unset, .unset, .unset, .unset, .unset, .unset, .unset] [(.long ld)])) rfl (by rw [hml]; rfl) (argsL := [(.long ld)]) (rest := []) (lenOf pd_19 rfl) rfl (by show 2 * 0 + _ ≤ _; exact Nat.le_of_eq rfl) (hb hby at_131) (fun _ _ => ⟨rfl, rfl, (by decide : 24 + 1 ≤ _), (by decide : 895 + 3 ≤ _)⟩)
  dsimp only [Pt.U, Pt.locs, Pt.cells, Pt.slots] at X216 l216 y216 z216 st216 hQ216
  subst l216 y216 z216
  obtain ⟨bd216, yd216, md216, dd216, rfl, N216q, K216, A216, Gy216, Gm216, Gd216, DT216⟩ := hQ216
  have N216 := Fr.app N200 N216q
  have fa217 := fa201.keep K216 all0
  have fa218 := fa202.keep K216
  have fa219 := fa203.keep K216 nin0
  have fa220 := fa204.keep K216 nin0
  have fa221 := fa205.keep K216
  have fa222 := fa206.keep K216 nin0
  have fa223 := fa207.keep K216 nin0
  have fa224 := fa208.keep K216 nin0
  have fa225 := fa209.keep K216 nin0
  have fa226 := fa210.keep K216
  have fa227 := fa211.keep K216 nin0
  have fa228 := fa212.keep K216 nin0
  have fa229 := A200.keep K216
  have fa230 := Gy200.keep K216 nin0
  have fa231 := Gm200.keep K216 nin0
  have fa232 := Gd200.keep K216 nin0
  have z233 : n0 ≤ T216.heap.size := Nat.le_trans z213 K216.1
  have hk := Nat.le_trans hk K216.1
  have kp234 : Keep h0 T216.heap [] := kp214.trans K216 all0
  have G235 : ∀ t, Steps p.tables e below (T216.setTop (mkF m 142 #[iv p0, iv p1, iv p2, iv p3, iv 1, rv eA, .val (.long ll), .second, .val (.long la), .second, .val (.long ld), .second, rv oe, rv bs157, rv b161, rv bl187, rv bd200, rv bd216, .unset, .unset, .unset, .unset, .unset, .unset] [(.ref bd216), (.ref bd200), (.ref bl187)])) t → Steps p.tables e below (s₁.setTop (entryFrame m #[(.int p0), (.int p1), (.int p2), (.int p3)] maxLocals)) t := by
   intro t kt
   refine G215 _ ?_
   refine st216 _ ?_
   refine XS.astore X216.here hx rfl (hb hby at_134) rfl rfl (l' := #[iv p0, iv p1, iv p2, iv p3, iv 1, rv eA, .val (.long ll), .second, .val (.long la), .second, .val (.long ld), .second, rv oe, rv bs157, rv b161, rv bl187, rv bd200, rv bd216, .unset, .unset, .unset, .unset, .unset, .unset]) rfl ?_
   refine XS.aload X216.here hx rfl (hb hby at_136) rfl rfl ?_
   refine XS.aload X216.here hx rfl (hb hby at_138) rfl rfl ?_
   refine XS.aload X216.here hx rfl (hb hby at_140) rfl rfl ?_
   exact kt
  obtain ⟨cq236, kq236, q236a, q236b, q236c⟩ := isOf hZ rfl fa226
  obtain ⟨_, _, ⟨T236, L236, k236, n236⟩, -, X236, ⟨Lc236, hQ236, l236, y236, z236⟩, st236⟩ := X216.virtualBack hx (y := (⟨"com/example/ratabl/ratabl/engine/Lock", "closes", "(Ljava/time/LocalDate;Ljava/time/LocalDate;)Z"⟩ : MethodName)) (z := (⟨"com/example/ratabl/ratabl/engine/Lock", "closes", "(Ljava/time/LocalDate;Ljava/time/LocalDate;)Z"⟩ : MethodName)) hown (mvT hZ (hq hw 166 rfl)) (mvT hZ (hq hw 167 rfl)) (notFace_of_selects (args := #[]) (mvT hZ (hq hw 169 rfl))) (mvT hZ (hq hw 169 rfl)) (mvT hZ (hq hw 168 rfl)) (by decide) (backOf (W := 0) (rmCl1 l Z a0 hw [] bl187 bd200 bd216 eN eA eC ps crr ads sw oe efd rfd eyr ryr bt bf ic ksw yd216 md216 dd216 yd200 md200 dd200 (ld.toInt) (la.toInt) T216.heap n0 z233 fa217 fa226 fa227  A216 Gy216 Gm216 Gd216 fa229 fa230 fa231 fa232 SS DT216 DT200) hZ (hq hw 170 rfl) (hq hw 80 rfl) (by decide) (by decide)) q236a q236c (g := (mkF m 142 #[iv p0, iv p1, iv p2, iv p3, iv 1, rv eA, .val (.long ll), .second, .val (.long la), .second, .val (.long ld), .second, rv oe, rv bs157, rv b161, rv bl187, rv bd200, rv bd216, .unset, .unset, .unset, .unset, .unset, .unset] [(.ref bd216), (.ref bd200), (.ref bl187)])) rfl (by rw [hml]; rfl) (Steps.refl _) (argsL := [(.ref bd200), (.ref bd216)]) (rest := []) (lenOf pd_24 rfl) rfl (by show 2 * 0 + _ ≤ _; exact Nat.le_of_eq rfl) (hb hby at_142) (fun _ _ => ⟨rfl, rfl, (by decide : 25 + 3 ≤ _), (by decide : 898 + 3 ≤ _)⟩)
  dsimp only [Pt.U, Pt.locs, Pt.cells, Pt.slots] at X236 l236 y236 z236 st236 hQ236
  subst l236 y236 z236
  obtain ⟨rfl, N236q, K236⟩ := hQ236
  have N236 := Fr.app N216 N236q
  have fa237 := fa217.keep K236 all0
  have fa238 := fa218.keep K236
  have fa239 := fa219.keep K236 nin0
  have fa240 := fa220.keep K236 nin0
  have fa241 := fa221.keep K236
  have fa242 := fa222.keep K236 nin0
  have fa243 := fa223.keep K236 nin0
  have fa244 := fa224.keep K236 nin0
  have fa245 := fa225.keep K236 nin0
  have fa246 := fa226.keep K236
  have fa247 := fa227.keep K236 nin0
  have fa248 := fa228.keep K236 nin0
  have fa249 := fa229.keep K236
  have fa250 := fa230.keep K236 nin0
  have fa251 := fa231.keep K236 nin0
  have fa252 := fa232.keep K236 nin0
  have fa253 := A216.keep K236
  have fa254 := Gy216.keep K236 nin0
  have fa255 := Gm216.keep K236 nin0
  have fa256 := Gd216.keep K236 nin0
  have z257 : n0 ≤ T236.heap.size := Nat.le_trans z233 K236.1
  have hk := Nat.le_trans hk K236.1
  have kp258 : Keep h0 T236.heap [] := kp234.trans K236 all0
  have G259 : ∀ t, Steps p.tables e below (T236.setTop (mkF m 153 #[iv p0, iv p1, iv p2, iv p3, iv 1, rv eA, .val (.long ll), .second, .val (.long la), .second, .val (.long ld), .second, rv oe, rv bs157, rv b161, rv bl187, rv bd200, rv bd216, iv (own_lt (ld.toInt) (la.toInt)), .unset, .unset, .unset, .unset, .unset] [(.ref bd216), (.ref bd200), (.ref bl187)])) t → Steps p.tables e below (s₁.setTop (entryFrame m #[(.int p0), (.int p1), (.int p2), (.int p3)] maxLocals)) t := by
   intro t kt
   refine G235 _ ?_
   refine st236.trans ?_
   refine XS.istore X236.here hx rfl (hb hby at_145) rfl (l' := #[iv p0, iv p1, iv p2, iv p3, iv 1, rv eA, .val (.long ll), .second, .val (.long la), .second, .val (.long ld), .second, rv oe, rv bs157, rv b161, rv bl187, rv bd200, rv bd216, iv (own_lt (ld.toInt) (la.toInt)), .unset, .unset, .unset, .unset, .unset]) rfl ?_
   refine XS.aload X236.here hx rfl (hb hby at_147) rfl rfl ?_
   refine XS.aload X236.here hx rfl (hb hby at_149) rfl rfl ?_
   show Steps p.tables e below (T236.setTop (mkF m 151 #[iv p0, iv p1, iv p2, iv p3, iv 1, rv eA, .val (.long ll), .second, .val (.long la), .second, .val (.long ld), .second, rv oe, rv bs157, rv b161, rv bl187, rv bd200, rv bd216, iv (own_lt (ld.toInt) (la.toInt)), .unset, .unset, .unset, .unset, .unset] [(.ref bd200), (.ref bl187)])) _
   refine XS.aload X236.here hx rfl (hb hby at_151) rfl rfl ?_
   exact kt
  obtain ⟨cq260, kq260, q260a, q260b, q260c⟩ := isOf hZ rfl fa246
  obtain ⟨_, _, ⟨T260, L260, k260, n260⟩, -, X260, ⟨Lc260, hQ260, l260, y260, z260⟩, st260⟩ := X236.virtualBack hx (y := (⟨"com/example/ratabl/ratabl/engine/Lock", "postsOn", "(Ljava/time/LocalDate;Ljava/time/LocalDate;)Ljava/time/LocalDate;"⟩ : MethodName)) (z := (⟨"com/example/ratabl/ratabl/engine/Lock", "postsOn", "(Ljava/time/LocalDate;Ljava/time/LocalDate;)Ljava/time/LocalDate;"⟩ : MethodName)) hown (mvT hZ (hq hw 227 rfl)) (mvT hZ (hq hw 228 rfl)) (notFace_of_selects (args := #[]) (mvT hZ (hq hw 230 rfl))) (mvT hZ (hq hw 230 rfl)) (mvT hZ (hq hw 229 rfl)) (by decide) (backOf (W := 0) (rmPo1 l Z a0 hw [] bl187 bd200 bd216 eN eA eC ps crr ads sw oe efd rfd eyr ryr bt bf ic ksw yd216 md216 dd216 yd200 md200 dd200 (ld.toInt) (la.toInt) T236.heap n0 z257 fa237 fa246 fa247  fa253 fa254 fa255 fa256 fa249 fa250 fa251 fa252 SS DT216 DT200) hZ (hq hw 231 rfl) (hq hw 80 rfl) (by decide) (by decide)) q260a q260c (g := (mkF m 153 #[iv p0, iv p1, iv p2, iv p3, iv 1, rv eA, .val (.long ll), .second, .val (.long la), .second, .val (.long ld), .second, rv oe, rv bs157, rv b161, rv bl187, rv bd200, rv bd216, iv (own_lt (ld.toInt) (la.toInt)), .unset, .unset, .unset, .unset, .unset] [(.ref bd216), (.ref bd200), (.ref bl187)])) rfl (by rw [hml]; rfl) (Steps.refl _) (argsL := [(.ref bd200), (.ref bd216)]) (rest := []) (lenOf pd_30 rfl) rfl (by show 2 * 0 + _ ≤ _; exact Nat.le_of_eq rfl) (hb hby at_153) (fun _ _ => ⟨rfl, rfl, (by decide : 28 + 4 ≤ _), (by decide : 901 + 4 ≤ _)⟩)
  dsimp only [Pt.U, Pt.locs, Pt.cells, Pt.slots] at X260 l260 y260 z260 st260 hQ260
  subst l260 y260 z260
  obtain ⟨bd260, yd260, md260, dd260, rfl, N260q, K260, A260, Gy260, Gm260, Gd260, DT260⟩ := hQ260
  have N260 := Fr.app N236 N260q
  have fa261 := fa237.keep K260 all0
  have fa262 := fa238.keep K260
  have fa263 := fa239.keep K260 nin0
  have fa264 := fa240.keep K260 nin0
  have fa265 := fa241.keep K260
  have fa266 := fa242.keep K260 nin0
  have fa267 := fa243.keep K260 nin0
  have fa268 := fa244.keep K260 nin0
  have fa269 := fa245.keep K260 nin0
  have fa270 := fa246.keep K260
  have fa271 := fa247.keep K260 nin0
  have fa272 := fa248.keep K260 nin0
  have fa273 := fa249.keep K260
  have fa274 := fa250.keep K260 nin0
  have fa275 := fa251.keep K260 nin0
  have fa276 := fa252.keep K260 nin0
  have fa277 := fa253.keep K260
  have fa278 := fa254.keep K260 nin0
  have fa279 := fa255.keep K260 nin0
  have fa280 := fa256.keep K260 nin0
  have z281 : n0 ≤ T260.heap.size := Nat.le_trans z257 K260.1
  have hk := Nat.le_trans hk K260.1
  have kp282 : Keep h0 T260.heap [] := kp258.trans K260 all0
  have G283 : ∀ t, Steps p.tables e below (T260.setTop (mkF m 156 #[iv p0, iv p1, iv p2, iv p3, iv 1, rv eA, .val (.long ll), .second, .val (.long la), .second, .val (.long ld), .second, rv oe, rv bs157, rv b161, rv bl187, rv bd200, rv bd216, iv (own_lt (ld.toInt) (la.toInt)), .unset, .unset, .unset, .unset, .unset] [(.ref bd260)])) t → Steps p.tables e below (s₁.setTop (entryFrame m #[(.int p0), (.int p1), (.int p2), (.int p3)] maxLocals)) t := by
   intro t kt
   refine G259 _ ?_
   refine st260.trans ?_
   exact kt
  obtain ⟨cq284, kq284, q284a, q284b, q284c⟩ := isOf hZ rfl A260
  obtain ⟨_, _, ⟨T284, L284, k284, n284⟩, -, X284, ⟨Lc284, hQ284, l284, y284, z284⟩, st284⟩ := X260.virtualBack hx (y := (⟨"java/time/LocalDate", "toEpochDay", "()J"⟩ : MethodName)) (z := (⟨"java/time/LocalDate", "toEpochDay", "()J"⟩ : MethodName)) hown (mvT hZ (hq hw 233 rfl)) (mvT hZ (hq hw 234 rfl)) (notFace_of_selects (args := #[]) (mvT hZ (hq hw 236 rfl))) (mvT hZ (hq hw 236 rfl)) (mvT hZ (hq hw 235 rfl)) (by decide) (backOf (W := 0) (rm32 l Z a0 hw [] bd260 eN eA eC ps crr ads sw oe efd rfd eyr ryr bt bf ic ksw yd260 md260 dd260 (if ld.toInt < la.toInt then la.toInt else ld.toInt) T260.heap n0 z281 fa261 A260 Gy260 Gm260 Gd260 SS DT260) hZ (hq hw 237 rfl) (hq hw 104 rfl) (by decide) (by decide)) q284a q284c (g := (mkF m 156 #[iv p0, iv p1, iv p2, iv p3, iv 1, rv eA, .val (.long ll), .second, .val (.long la), .second, .val (.long ld), .second, rv oe, rv bs157, rv b161, rv bl187, rv bd200, rv bd216, iv (own_lt (ld.toInt) (la.toInt)), .unset, .unset, .unset, .unset, .unset] [(.ref bd260)])) rfl (by rw [hml]; rfl) (Steps.refl _) (argsL := []) (rest := []) (lenOf pd_0 rfl) rfl (by show 2 * 0 + _ ≤ _; exact Nat.le_of_eq rfl) (hb hby at_156) (fun _ _ => ⟨rfl, rfl, (by decide : 32 + 0 ≤ _), (by decide : 905 + 0 ≤ _)⟩)
  dsimp only [Pt.U, Pt.locs, Pt.cells, Pt.slots] at X284 l284 y284 z284 st284 hQ284
  subst l284 y284 z284
  obtain ⟨qt284, rfl, hqt284, N284q, eh284⟩ := hQ284
  have N284 := Fr.app N260 N284q
  have G285 : ∀ t, Steps p.tables e below (T284.setTop (mkF m 163 #[iv p0, iv p1, iv p2, iv p3, iv 1, rv eA, .val (.long ll), .second, .val (.long la), .second, .val (.long ld), .second, rv oe, rv bs157, rv b161, rv bl187, rv bd200, rv bd216, iv (own_lt (ld.toInt) (la.toInt)), .val (.long qt284), .second, .unset, .unset, .unset] [(.int (1 : Int32))])) t → Steps p.tables e below (s₁.setTop (entryFrame m #[(.int p0), (.int p1), (.int p2), (.int p3)] maxLocals)) t := by
   intro t kt
   refine G283 _ ?_
   refine st284.trans ?_
   refine XS.lstore X284.here hx rfl (hb hby at_159) rfl (l' := #[iv p0, iv p1, iv p2, iv p3, iv 1, rv eA, .val (.long ll), .second, .val (.long la), .second, .val (.long ld), .second, rv oe, rv bs157, rv b161, rv bl187, rv bd200, rv bd216, iv (own_lt (ld.toInt) (la.toInt)), .val (.long qt284), .second, .unset, .unset, .unset]) rfl ?_
   refine XS.iload X284.here hx rfl (hb hby at_161) rfl ?_
   exact kt
  have G286 : ∀ t, Steps p.tables e below (T284.setTop (mkF m 179 #[iv p0, iv p1, iv p2, iv p3, iv 1, rv eA, .val (.long ll), .second, .val (.long la), .second, .val (.long ld), .second, rv oe, rv bs157, rv b161, rv bl187, rv bd200, rv bd216, iv (own_lt (ld.toInt) (la.toInt)), .val (.long qt284), .second, .unset, .unset, .unset] [(.int (1 : Int32)), (.int (1 : Int32))])) t → Steps p.tables e below (s₁.setTop (entryFrame m #[(.int p0), (.int p1), (.int p2), (.int p3)] maxLocals)) t := by
   intro t kt
   refine G285 _ ?_
   refine XS.ifYes X284.here hx rfl (pc0 := 163) (pc' := 176) rfl (hb hby at_163) rfl ((if0 _ _).trans (feq (by decide)).2) (by decide) (by decide) ?_
   refine XS.iload X284.here hx rfl (hb hby at_176) rfl ?_
   refine XS.iconst X284.here hx rfl (hb hby at_178) ?_
   exact kt
  have G287 : ∀ t, Steps p.tables e below (T284.setTop (mkF m 187 #[iv p0, iv p1, iv p2, iv p3, iv 1, rv eA, .val (.long ll), .second, .val (.long la), .second, .val (.long ld), .second, rv oe, rv bs157, rv b161, rv bl187, rv bd200, rv bd216, iv (own_lt (ld.toInt) (la.toInt)), .val (.long qt284), .second, .unset, .unset, .unset] [(.int (lcmpW ld la))])) t → Steps p.tables e below (s₁.setTop (entryFrame m #[(.int p0), (.int p1), (.int p2), (.int p3)] maxLocals)) t := by
   intro t kt
   refine G286 _ ?_
   refine XS.icmpNo X284.here hx rfl (hb hby at_179) rfl (teq (by decide)).2 ?_
   refine XS.lload X284.here hx rfl (hb hby at_182) rfl ?_
   refine XS.lload X284.here hx rfl (hb hby at_184) rfl ?_
   refine XS.lcmp X284.here hx rfl (hb hby at_186) rfl ?_
   exact kt
  by_cases hc187_288 : ld < la
  ·skip
   have G289 : ∀ t, Steps p.tables e below (T284.setTop (mkF m 199 #[iv p0, iv p1, iv p2, iv p3, iv 1, rv eA, .val (.long ll), .second, .val (.long la), .second, .val (.long ld), .second, rv oe, rv bs157, rv b161, rv bl187, rv bd200, rv bd216, iv (own_lt (ld.toInt) (la.toInt)), .val (.long qt284), .second, iv 1, .unset, .unset] [(.int (1 : Int32))])) t → Steps p.tables e below (s₁.setTop (entryFrame m #[(.int p0), (.int p1), (.int p2), (.int p3)] maxLocals)) t := by
    intro t kt
    refine G287 _ ?_
    refine XS.ifNo X284.here hx rfl (hb hby at_187) rfl ((if0 _ _).trans (tlt ((lw_lt _ _).mpr hc187_288)).2.1) ?_
    refine XS.iconst X284.here hx rfl (hb hby at_190) ?_
    refine XS.goto X284.here hx rfl (pc0 := 191) (pc' := 195) rfl (hb hby at_191) (by decide) (by decide) ?_
    refine XS.istore X284.here hx rfl (hb hby at_195) rfl (l' := #[iv p0, iv p1, iv p2, iv p3, iv 1, rv eA, .val (.long ll), .second, .val (.long la), .second, .val (.long ld), .second, rv oe, rv bs157, rv b161, rv bl187, rv bd200, rv bd216, iv (own_lt (ld.toInt) (la.toInt)), .val (.long qt284), .second, iv 1, .unset, .unset]) rfl ?_
    refine XS.iload X284.here hx rfl (hb hby at_197) rfl ?_
    exact kt
   have G290 : ∀ t, Steps p.tables e below (T284.setTop (mkF m 249 #[iv p0, iv p1, iv p2, iv p3, iv 1, rv eA, .val (.long ll), .second, .val (.long la), .second, .val (.long ld), .second, rv oe, rv bs157, rv b161, rv bl187, rv bd200, rv bd216, iv (own_lt (ld.toInt) (la.toInt)), .val (.long qt284), .second, iv 1, .val (.long la), .second] [(.int (1 : Int32)), (.int (own_lt (ld.toInt) (la.toInt)))])) t → Steps p.tables e below (s₁.setTop (entryFrame m #[(.int p0), (.int p1), (.int p2), (.int p3)] maxLocals)) t := by
    intro t kt
    refine G289 _ ?_
    refine XS.ifNo X284.here hx rfl (hb hby at_199) rfl ((if0 _ _).trans (feq (by decide)).1) ?_
    refine XS.lload X284.here hx rfl (hb hby at_202) rfl ?_
    refine XS.goto X284.here hx rfl (pc0 := 204) (pc' := 209) rfl (hb hby at_204) (by decide) (by decide) ?_
    refine XS.lstore X284.here hx rfl (hb hby at_209) rfl (l' := #[iv p0, iv p1, iv p2, iv p3, iv 1, rv eA, .val (.long ll), .second, .val (.long la), .second, .val (.long ld), .second, rv oe, rv bs157, rv b161, rv bl187, rv bd200, rv bd216, iv (own_lt (ld.toInt) (la.toInt)), .val (.long qt284), .second, iv 1, .val (.long la), .second]) rfl ?_
    refine XS.goto X284.here hx rfl (pc0 := 211) (pc' := 245) rfl (hb hby at_211) (by decide) (by decide) ?_
    refine XS.iload X284.here hx rfl (hb hby at_245) rfl ?_
    refine XS.iload X284.here hx rfl (hb hby at_247) rfl ?_
    exact kt
   have hc249_291 : (own_lt (ld.toInt) (la.toInt)) = (1 : Int32) := by rw [own_lt, if_pos (Int64.lt_iff_toInt_lt.mp hc187_288)]
   have G292 : ∀ t, Steps p.tables e below (T284.setTop (mkF m 257 #[iv p0, iv p1, iv p2, iv p3, iv 1, rv eA, .val (.long ll), .second, .val (.long la), .second, .val (.long ld), .second, rv oe, rv bs157, rv b161, rv bl187, rv bd200, rv bd216, iv (own_lt (ld.toInt) (la.toInt)), .val (.long qt284), .second, iv 1, .val (.long la), .second] [(.int (lcmpW qt284 la))])) t → Steps p.tables e below (s₁.setTop (entryFrame m #[(.int p0), (.int p1), (.int p2), (.int p3)] maxLocals)) t := by
    intro t kt
    refine G290 _ ?_
    refine XS.icmpNo X284.here hx rfl (hb hby at_249) rfl (teq hc249_291).2 ?_
    show Steps p.tables e below (T284.setTop (mkF m 252 #[iv p0, iv p1, iv p2, iv p3, iv 1, rv eA, .val (.long ll), .second, .val (.long la), .second, .val (.long ld), .second, rv oe, rv bs157, rv b161, rv bl187, rv bd200, rv bd216, iv (own_lt (ld.toInt) (la.toInt)), .val (.long qt284), .second, iv 1, .val (.long la), .second] [])) _
    refine XS.lload X284.here hx rfl (hb hby at_252) rfl ?_
    refine XS.lload X284.here hx rfl (hb hby at_254) rfl ?_
    refine XS.lcmp X284.here hx rfl (hb hby at_256) rfl ?_
    exact kt
   have hc257_293 : qt284 = la := Int64.toInt_inj.mp (by rw [hqt284, if_pos (Int64.lt_iff_toInt_lt.mp hc187_288)])
   obtain ⟨fs, hr, hrun, hended, hRW⟩ := X284.leaveW (s := s) hS (by rw [show T284.heap = T260.heap from eh284]; exact hk) (v := some (.int (1 : Int32))) (fun h => by rw [Bd.returns] at h; cases h) (BodyLoose.notSynchronized Bd)
   refine ⟨_, _, G292 _ ?_, hrun, hended, _, _, rfl, ?_, hRW.1, hRW.2.1, hRW.2.2.1, hRW.2.2.2.mono (by decide) (by decide)⟩
   ·skip
    refine XS.ifNo X284.here hx rfl (hb hby at_257) rfl ((if0 _ _).trans (teq ((lw_eq _ _).mpr hc257_293)).2) ?_
    refine XS.iconst X284.here hx rfl (hb hby at_260) ?_
    refine XS.goto X284.here hx rfl (pc0 := 261) (pc' := 265) rfl (hb hby at_261) (by decide) (by decide) ?_
    exact retN X284 hx (t := .boolean) Bd.returns (by simp) (hb hby at_265) hr
   ·show Q0 Z p0 p1 p2 p3 eN eA eC ps crr ads sw oe efd rfd eyr ryr bt bf ic ksw h0 n0 _ T284.heap _
    rw [eh284]
    exact ⟨rfl, N284⟩
  ·skip
   have G294 : ∀ t, Steps p.tables e below (T284.setTop (mkF m 199 #[iv p0, iv p1, iv p2, iv p3, iv 1, rv eA, .val (.long ll), .second, .val (.long la), .second, .val (.long ld), .second, rv oe, rv bs157, rv b161, rv bl187, rv bd200, rv bd216, iv (own_lt (ld.toInt) (la.toInt)), .val (.long qt284), .second, iv 0, .unset, .unset] [(.int (0 : Int32))])) t → Steps p.tables e below (s₁.setTop (entryFrame m #[(.int p0), (.int p1), (.int p2), (.int p3)] maxLocals)) t := by
    intro t kt
    refine G287 _ ?_
    refine XS.ifYes X284.here hx rfl (pc0 := 187) (pc' := 194) rfl (hb hby at_187) rfl ((if0 _ _).trans (flt (fun q => hc187_288 ((lw_lt _ _).mp q))).2.1) (by decide) (by decide) ?_
    refine XS.iconst X284.here hx rfl (hb hby at_194) ?_
    refine XS.istore X284.here hx rfl (hb hby at_195) rfl (l' := #[iv p0, iv p1, iv p2, iv p3, iv 1, rv eA, .val (.long ll), .second, .val (.long la), .second, .val (.long ld), .second, rv oe, rv bs157, rv b161, rv bl187, rv bd200, rv bd216, iv (own_lt (ld.toInt) (la.toInt)), .val (.long qt284), .second, iv 0, .unset, .unset]) rfl ?_
    refine XS.iload X284.here hx rfl (hb hby at_197) rfl ?_
    exact kt
   have G295 : ∀ t, Steps p.tables e below (T284.setTop (mkF m 249 #[iv p0, iv p1, iv p2, iv p3, iv 1, rv eA, .val (.long ll), .second, .val (.long la), .second, .val (.long ld), .second, rv oe, rv bs157, rv b161, rv bl187, rv bd200, rv bd216, iv (own_lt (ld.toInt) (la.toInt)), .val (.long qt284), .second, iv 0, .val (.long ld), .second] [(.int (0 : Int32)), (.int (own_lt (ld.toInt) (la.toInt)))])) t → Steps p.tables e below (s₁.setTop (entryFrame m #[(.int p0), (.int p1), (.int p2), (.int p3)] maxLocals)) t := by
    intro t kt
    refine G294 _ ?_
    refine XS.ifYes X284.here hx rfl (pc0 := 199) (pc' := 207) rfl (hb hby at_199) rfl ((if0 _ _).trans (teq (by decide)).1) (by decide) (by decide) ?_
    refine XS.lload X284.here hx rfl (hb hby at_207) rfl ?_
    refine XS.lstore X284.here hx rfl (hb hby at_209) rfl (l' := #[iv p0, iv p1, iv p2, iv p3, iv 1, rv eA, .val (.long ll), .second, .val (.long la), .second, .val (.long ld), .second, rv oe, rv bs157, rv b161, rv bl187, rv bd200, rv bd216, iv (own_lt (ld.toInt) (la.toInt)), .val (.long qt284), .second, iv 0, .val (.long ld), .second]) rfl ?_
    refine XS.goto X284.here hx rfl (pc0 := 211) (pc' := 245) rfl (hb hby at_211) (by decide) (by decide) ?_
    refine XS.iload X284.here hx rfl (hb hby at_245) rfl ?_
    refine XS.iload X284.here hx rfl (hb hby at_247) rfl ?_
    exact kt
   have hc249_296 : (own_lt (ld.toInt) (la.toInt)) = (0 : Int32) := by rw [own_lt, if_neg (fun q => hc187_288 (Int64.lt_iff_toInt_lt.mpr q))]
   have G297 : ∀ t, Steps p.tables e below (T284.setTop (mkF m 257 #[iv p0, iv p1, iv p2, iv p3, iv 1, rv eA, .val (.long ll), .second, .val (.long la), .second, .val (.long ld), .second, rv oe, rv bs157, rv b161, rv bl187, rv bd200, rv bd216, iv (own_lt (ld.toInt) (la.toInt)), .val (.long qt284), .second, iv 0, .val (.long ld), .second] [(.int (lcmpW qt284 ld))])) t → Steps p.tables e below (s₁.setTop (entryFrame m #[(.int p0), (.int p1), (.int p2), (.int p3)] maxLocals)) t := by
    intro t kt
    refine G295 _ ?_
    refine XS.icmpNo X284.here hx rfl (hb hby at_249) rfl (teq hc249_296).2 ?_
    refine XS.lload X284.here hx rfl (hb hby at_252) rfl ?_
    refine XS.lload X284.here hx rfl (hb hby at_254) rfl ?_
    show Steps p.tables e below (T284.setTop (mkF m 256 #[iv p0, iv p1, iv p2, iv p3, iv 1, rv eA, .val (.long ll), .second, .val (.long la), .second, .val (.long ld), .second, rv oe, rv bs157, rv b161, rv bl187, rv bd200, rv bd216, iv (own_lt (ld.toInt) (la.toInt)), .val (.long qt284), .second, iv 0, .val (.long ld), .second] [(.long ld), (.long qt284)])) _
    refine XS.lcmp X284.here hx rfl (hb hby at_256) rfl ?_
    exact kt
   have hc257_298 : qt284 = ld := Int64.toInt_inj.mp (by rw [hqt284, if_neg (fun q => hc187_288 (Int64.lt_iff_toInt_lt.mpr q))])
   obtain ⟨fs, hr, hrun, hended, hRW⟩ := X284.leaveW (s := s) hS (by rw [show T284.heap = T260.heap from eh284]; exact hk) (v := some (.int (1 : Int32))) (fun h => by rw [Bd.returns] at h; cases h) (BodyLoose.notSynchronized Bd)
   refine ⟨_, _, G297 _ ?_, hrun, hended, _, _, rfl, ?_, hRW.1, hRW.2.1, hRW.2.2.1, hRW.2.2.2.mono (by decide) (by decide)⟩
   ·skip
    refine XS.ifNo X284.here hx rfl (hb hby at_257) rfl ((if0 _ _).trans (teq ((lw_eq _ _).mpr hc257_298)).2) ?_
    refine XS.iconst X284.here hx rfl (hb hby at_260) ?_
    refine XS.goto X284.here hx rfl (pc0 := 261) (pc' := 265) rfl (hb hby at_261) (by decide) (by decide) ?_
    exact retN X284 hx (t := .boolean) Bd.returns (by simp) (hb hby at_265) hr
   ·show Q0 Z p0 p1 p2 p3 eN eA eC ps crr ads sw oe efd rfd eyr ryr bt bf ic ksw h0 n0 _ T284.heap _
    rw [eh284]
    exact ⟨rfl, N284⟩
 ·skip
  have G299 : ∀ t, Steps p.tables e below (s₁.setTop (mkF m 10 #[iv p0, iv p1, iv p2, iv p3, iv 2, .unset, .unset, .unset, .unset, .unset, .unset, .unset, .unset, .unset, .unset, .unset, .unset, .unset, .unset, .unset, .unset, .unset, .unset, .unset] [(.int (2 : Int32))])) t → Steps p.tables e below (s₁.setTop (entryFrame m #[(.int p0), (.int p1), (.int p2), (.int p3)] maxLocals)) t := by
   intro t kt
   refine G3 _ ?_
   refine XS.iload X0.here hx rfl (hb hby at_8) rfl ?_
   exact kt
  have G300 : ∀ t, Steps p.tables e below (s₁.setTop (mkF m 22 #[iv p0, iv p1, iv p2, iv p3, iv 2, .unset, .unset, .unset, .unset, .unset, .unset, .unset, .unset, .unset, .unset, .unset, .unset, .unset, .unset, .unset, .unset, .unset, .unset, .unset] [(.int (1 : Int32)), (.int (2 : Int32))])) t → Steps p.tables e below (s₁.setTop (entryFrame m #[(.int p0), (.int p1), (.int p2), (.int p3)] maxLocals)) t := by
   intro t kt
   refine G299 _ ?_
   refine XS.ifYes X0.here hx rfl (pc0 := 10) (pc' := 19) rfl (hb hby at_10) rfl ((if0 _ _).trans (feq (by decide)).2) (by decide) (by decide) ?_
   refine XS.iload X0.here hx rfl (hb hby at_19) rfl ?_
   refine XS.iconst X0.here hx rfl (hb hby at_21) ?_
   exact kt
  obtain ⟨T301, X301, e301, st301⟩ := getS2 X0 hx hZ hown (host := "") (Or.inl (hq hw 297 rfl)) Via.refl e0 (SS.2.2.1.ext O0.2) (g := (mkF m 31 #[iv p0, iv p1, iv p2, iv p3, iv 2, .unset, .unset, .unset, .unset, .unset, .unset, .unset, .unset, .unset, .unset, .unset, .unset, .unset, .unset, .unset, .unset, .unset, .unset, .unset] [])) rfl (hb hby at_31)
  have G302 : ∀ t, Steps p.tables e below (T301.setTop (mkF m 37 #[iv p0, iv p1, iv p2, iv p3, iv 2, rv eC, .unset, .unset, .unset, .unset, .unset, .unset, .unset, .unset, .unset, .unset, .unset, .unset, .unset, .unset, .unset, .unset, .unset, .unset] [(.int p1)])) t → Steps p.tables e below (s₁.setTop (entryFrame m #[(.int p0), (.int p1), (.int p2), (.int p3)] maxLocals)) t := by
   intro t kt
   refine G300 _ ?_
   refine XS.icmpYes X0.here hx rfl (pc0 := 22) (pc' := 31) rfl (hb hby at_22) rfl (feq (by decide)).2 (by decide) (by decide) ?_
   refine st301 _ ?_
   refine XS.astore X301.here hx rfl (hb hby at_34) rfl rfl (l' := #[iv p0, iv p1, iv p2, iv p3, iv 2, rv eC, .unset, .unset, .unset, .unset, .unset, .unset, .unset, .unset, .unset, .unset, .unset, .unset, .unset, .unset, .unset, .unset, .unset, .unset]) rfl ?_
   refine XS.iloadN X301.here hx rfl (hb hby at_36) rfl ?_
   exact kt
  have G303 : ∀ t, Steps p.tables e below (T301.setTop (mkF m 50 #[iv p0, iv p1, iv p2, iv p3, iv 2, rv eC, .val (.long ((p1 % (2932896 : Int32)).toInt64)), .second, .val (.long (p2.toInt64)), .second, .unset, .unset, .unset, .unset, .unset, .unset, .unset, .unset, .unset, .unset, .unset, .unset, .unset, .unset] [(.int (2 : Int32)), (.int (2 : Int32))])) t → Steps p.tables e below (s₁.setTop (entryFrame m #[(.int p0), (.int p1), (.int p2), (.int p3)] maxLocals)) t := by
   intro t kt
   refine G302 _ ?_
   refine X301.ldcInt hx hown (mvT hZ (hq hw 4 rfl)) (g := (mkF m 37 #[iv p0, iv p1, iv p2, iv p3, iv 2, rv eC, .unset, .unset, .unset, .unset, .unset, .unset, .unset, .unset, .unset, .unset, .unset, .unset, .unset, .unset, .unset, .unset, .unset, .unset] [(.int p1)])) rfl (hb hby at_37) _ ?_
   refine iremM X301 hx rfl (hb hby at_39) rfl (by decide) ?_
   refine XS.i2l X301.here hx rfl (hb hby at_40) rfl ?_
   refine XS.lstore X301.here hx rfl (hb hby at_41) rfl (l' := #[iv p0, iv p1, iv p2, iv p3, iv 2, rv eC, .val (.long ((p1 % (2932896 : Int32)).toInt64)), .second, .unset, .unset, .unset, .unset, .unset, .unset, .unset, .unset, .unset, .unset, .unset, .unset, .unset, .unset, .unset, .unset]) rfl ?_
   refine XS.iloadN X301.here hx rfl (hb hby at_43) rfl ?_
   refine XS.i2l X301.here hx rfl (hb hby at_44) rfl ?_
   refine XS.lstore X301.here hx rfl (hb hby at_45) rfl (l' := #[iv p0, iv p1, iv p2, iv p3, iv 2, rv eC, .val (.long ((p1 % (2932896 : Int32)).toInt64)), .second, .val (.long (p2.toInt64)), .second, .unset, .unset, .unset, .unset, .unset, .unset, .unset, .unset, .unset, .unset, .unset, .unset, .unset, .unset]) rfl ?_
   show Steps p.tables e below (T301.setTop (mkF m 47 #[iv p0, iv p1, iv p2, iv p3, iv 2, rv eC, .val (.long ((p1 % (2932896 : Int32)).toInt64)), .second, .val (.long (p2.toInt64)), .second, .unset, .unset, .unset, .unset, .unset, .unset, .unset, .unset, .unset, .unset, .unset, .unset, .unset, .unset] [])) _
   refine XS.iload X301.here hx rfl (hb hby at_47) rfl ?_
   refine XS.iconst X301.here hx rfl (hb hby at_49) ?_
   exact kt
  have G304 : ∀ t, Steps p.tables e below (T301.setTop (mkF m 65 #[iv p0, iv p1, iv p2, iv p3, iv 2, rv eC, .val (.long ((p1 % (2932896 : Int32)).toInt64)), .second, .val (.long (p2.toInt64)), .second, .val (.long (((p1 % (2932896 : Int32)).toInt64) + (p3.toInt64))), .second, .unset, .unset, .unset, .unset, .unset, .unset, .unset, .unset, .unset, .unset, .unset, .unset] [])) t → Steps p.tables e below (s₁.setTop (entryFrame m #[(.int p0), (.int p1), (.int p2), (.int p3)] maxLocals)) t := by
   intro t kt
   refine G303 _ ?_
   refine XS.icmpNo X301.here hx rfl (hb hby at_50) rfl (teq (by decide)).2 ?_
   refine XS.lload X301.here hx rfl (hb hby at_53) rfl ?_
   refine XS.goto X301.here hx rfl (pc0 := 55) (pc' := 60) rfl (hb hby at_55) (by decide) (by decide) ?_
   refine XS.iloadN X301.here hx rfl (hb hby at_60) rfl ?_
   refine XS.i2l X301.here hx rfl (hb hby at_61) rfl ?_
   refine XS.ladd X301.here hx rfl (hb hby at_62) rfl ?_
   refine XS.lstore X301.here hx rfl (hb hby at_63) rfl (l' := #[iv p0, iv p1, iv p2, iv p3, iv 2, rv eC, .val (.long ((p1 % (2932896 : Int32)).toInt64)), .second, .val (.long (p2.toInt64)), .second, .val (.long (((p1 % (2932896 : Int32)).toInt64) + (p3.toInt64))), .second, .unset, .unset, .unset, .unset, .unset, .unset, .unset, .unset, .unset, .unset, .unset, .unset]) rfl ?_
   exact kt
  obtain ⟨ll, hll⟩ : ∃ z : Int64, z = ((p1 % (2932896 : Int32)).toInt64) := ⟨_, rfl⟩
  obtain ⟨la, hla⟩ : ∃ z : Int64, z = (p2.toInt64) := ⟨_, rfl⟩
  obtain ⟨ld, hld⟩ : ∃ z : Int64, z = (((p1 % (2932896 : Int32)).toInt64) + (p3.toInt64)) := ⟨_, rfl⟩
  have G305 : ∀ t, Steps p.tables e below (T301.setTop (mkF m 65 #[iv p0, iv p1, iv p2, iv p3, iv 2, rv eC, .val (.long ll), .second, .val (.long la), .second, .val (.long ld), .second, .unset, .unset, .unset, .unset, .unset, .unset, .unset, .unset, .unset, .unset, .unset, .unset] [])) t → Steps p.tables e below (s₁.setTop (entryFrame m #[(.int p0), (.int p1), (.int p2), (.int p3)] maxLocals)) t := by
   intro t kt
   rw [hll, hla, hld] at kt
   exact G304 t kt
  have hbl' : -2932896 < ll.toInt ∧ ll.toInt < 2932896 := by rw [hll]; exact own_bl p1
  have hba' : -2147483648 ≤ la.toInt ∧ la.toInt < 2147483648 := by rw [hla]; exact own_ba p2
  have hbd : -8589934592 ≤ ld.toInt ∧ ld.toInt ≤ 8589934592 := by rw [hld]; exact own_bd (by have q := own_bl p1; omega) p3
  have G306 : ∀ t, Steps p.tables e below (T301.setTop (mkF m 68 #[iv p0, iv p1, iv p2, iv p3, iv 2, rv eC, .val (.long ll), .second, .val (.long la), .second, .val (.long ld), .second, .unset, .unset, .unset, .unset, .unset, .unset, .unset, .unset, .unset, .unset, .unset, .unset] [(.int (2 : Int32)), (.int (2 : Int32))])) t → Steps p.tables e below (s₁.setTop (entryFrame m #[(.int p0), (.int p1), (.int p2), (.int p3)] maxLocals)) t := by
   intro t kt
   refine G305 _ ?_
   refine XS.iload X301.here hx rfl (hb hby at_65) rfl ?_
   refine XS.iconst X301.here hx rfl (hb hby at_67) ?_
   exact kt
  have G307 : ∀ t, Steps p.tables e below (T301.setTop (mkF m 73 #[iv p0, iv p1, iv p2, iv p3, iv 2, rv eC, .val (.long ll), .second, .val (.long la), .second, .val (.long ld), .second, .unset, .unset, .unset, .unset, .unset, .unset, .unset, .unset, .unset, .unset, .unset, .unset] [(.long ll)])) t → Steps p.tables e below (s₁.setTop (entryFrame m #[(.int p0), (.int p1), (.int p2), (.int p3)] maxLocals)) t := by
   intro t kt
   refine G306 _ ?_
   refine XS.icmpNo X301.here hx rfl (hb hby at_68) rfl (teq (by decide)).2 ?_
   refine XS.lload X301.here hx rfl (hb hby at_71) rfl ?_
   exact kt
  obtain ⟨_, _, ⟨T308, L308, k308, n308⟩, -, X308, ⟨Lc308, hQ308, l308, y308, z308⟩, st308⟩ := Jvm.LawKit.callS X301 hx (y := (⟨"java/time/LocalDate", "ofEpochDay", "(J)Ljava/time/LocalDate;"⟩ : MethodName)) hown (mvT hZ (hq hw 102 rfl)) (mvT hZ (hq hw 103 rfl)) (mvT hZ (hq hw 104 rfl)) (mvT hZ (hq hw 105 rfl)) (by decide) (backOf (W := 0) (rm14 l Z a0 hw [] ll eN eA eC ps crr ads sw oe efd rfd eyr ryr bt bf ic ksw  h0 n0 Z0 O0  SS (by omega)) hZ (hq hw 105 rfl) (hq hw 104 rfl) (by decide) (by decide)) (g := (mkF m 73 #[iv p0, iv p1, iv p2, iv p3, iv 2, rv eC, .val (.long ll), .second, .val (.long la), .second, .val (.long ld), .second, .unset, .unset, .unset, .unset, .unset, .unset, .unset, .unset, .unset, .unset, .unset, .unset] [(.long ll)])) rfl (by rw [hml]; rfl) (argsL := [(.long ll)]) (rest := []) (lenOf pd_19 rfl) rfl (by show 2 * 0 + _ ≤ _; exact Nat.le_of_eq rfl) (hb hby at_73) (fun _ _ => ⟨rfl, e301, (by decide : 0 + 1 ≤ _), (by decide : 0 + 3 ≤ _)⟩)
  dsimp only [Pt.U, Pt.locs, Pt.cells, Pt.slots] at X308 l308 y308 z308 st308 hQ308
  subst l308 y308 z308
  obtain ⟨bd308, yd308, md308, dd308, rfl, N308q, K308, A308, Gy308, Gm308, Gd308, DT308⟩ := hQ308
  have N308 := Fr.app N0 N308q
  have fa309 := O0.keep K308 all0
  have z310 : n0 ≤ T308.heap.size := Nat.le_trans Z0 K308.1
  have hk := Nat.le_trans hk K308.1
  have kp311 : Keep h0 T308.heap [] := kp0.trans K308 all0
  have G312 : ∀ t, Steps p.tables e below (T308.setTop (mkF m 76 #[iv p0, iv p1, iv p2, iv p3, iv 2, rv eC, .val (.long ll), .second, .val (.long la), .second, .val (.long ld), .second, .unset, .unset, .unset, .unset, .unset, .unset, .unset, .unset, .unset, .unset, .unset, .unset] [(.ref bd308)])) t → Steps p.tables e below (s₁.setTop (entryFrame m #[(.int p0), (.int p1), (.int p2), (.int p3)] maxLocals)) t := by
   intro t kt
   refine G307 _ ?_
   refine st308 _ ?_
   exact kt
  obtain ⟨_, _, ⟨T313, L313, k313, n313⟩, -, X313, ⟨Lc313, hQ313, l313, y313, z313⟩, st313⟩ := Jvm.LawKit.callS X308 hx (y := (⟨"java/util/Optional", "of", "(Ljava/lang/Object;)Ljava/util/Optional;"⟩ : MethodName)) hown (mvT hZ (hq hw 299 rfl)) (mvT hZ (hq hw 248 rfl)) (mvT hZ (hq hw 7 rfl)) (mvT hZ (hq hw 249 rfl)) (by decide) (backOf (W := 0) (rm33 l Z a0 hw [] bd308  T308.heap n0 z310  ) hZ (hq hw 249 rfl) (hq hw 7 rfl) (by decide) (by decide)) (g := (mkF m 76 #[iv p0, iv p1, iv p2, iv p3, iv 2, rv eC, .val (.long ll), .second, .val (.long la), .second, .val (.long ld), .second, .unset, .unset, .unset, .unset, .unset, .unset, .unset, .unset, .unset, .unset, .unset, .unset] [(.ref bd308)])) rfl (by rw [hml]; rfl) (argsL := [(.ref bd308)]) (rest := []) (lenOf pd_17 rfl) rfl (by show 2 * 0 + _ ≤ _; exact Nat.le_of_eq rfl) (hb hby at_76) (fun _ _ => ⟨rfl, rfl, (by decide : 1 + 1 ≤ _), (by decide : 3 + 1 ≤ _)⟩)
  dsimp only [Pt.U, Pt.locs, Pt.cells, Pt.slots] at X313 l313 y313 z313 st313 hQ313
  subst l313 y313 z313
  obtain ⟨bo313, rfl, N313q, K313, A313, Gv313⟩ := hQ313
  have N313 := Fr.app N308 N313q
  have fa314 := fa309.keep K313 all0
  have fa315 := A308.keep K313
  have fa316 := Gy308.keep K313 nin0
  have fa317 := Gm308.keep K313 nin0
  have fa318 := Gd308.keep K313 nin0
  have z319 : n0 ≤ T313.heap.size := Nat.le_trans z310 K313.1
  have hk := Nat.le_trans hk K313.1
  have kp320 : Keep h0 T313.heap [] := kp311.trans K313 all0
  have G321 : ∀ t, Steps p.tables e below (T313.setTop (mkF m 87 #[iv p0, iv p1, iv p2, iv p3, iv 2, rv eC, .val (.long ll), .second, .val (.long la), .second, .val (.long ld), .second, rv bo313, .unset, .unset, .unset, .unset, .unset, .unset, .unset, .unset, .unset, .unset, .unset] [])) t → Steps p.tables e below (s₁.setTop (entryFrame m #[(.int p0), (.int p1), (.int p2), (.int p3)] maxLocals)) t := by
   intro t kt
   refine G312 _ ?_
   refine st313 _ ?_
   refine XS.goto X313.here hx rfl (pc0 := 79) (pc' := 85) rfl (hb hby at_79) (by decide) (by decide) ?_
   refine XS.astore X313.here hx rfl (hb hby at_85) rfl rfl (l' := #[iv p0, iv p1, iv p2, iv p3, iv 2, rv eC, .val (.long ll), .second, .val (.long la), .second, .val (.long ld), .second, rv bo313, .unset, .unset, .unset, .unset, .unset, .unset, .unset, .unset, .unset, .unset, .unset]) rfl ?_
   exact kt
  obtain ⟨_, vm322, ⟨T322, L322, k322, n322⟩, -, X322, hS322, gr322, ⟨Lc322, hQ322, l322, y322, z322⟩, st322⟩ := callSS X313 hx (y := (⟨"com/example/ratabl/ratabl/model/Settings", "defaults", "()Lcom/example/ratabl/ratabl/model/Settings;"⟩ : MethodName)) hown (mvT hZ (hq hw 10 rfl)) (mvT hZ (hq hw 11 rfl)) (mvT hZ (hq hw 12 rfl)) (mvT hZ (hq hw 13 rfl)) (by decide) (backOfS (W := 0) (rm2 l Z a0 hw []  eN eA eC ps crr ads sw oe efd rfd eyr ryr bt bf ic ksw  T313.heap n0 z319 fa314  SS ) hZ (hq hw 13 rfl) (hq hw 12 rfl) (by decide) (by decide)) (g := (mkF m 87 #[iv p0, iv p1, iv p2, iv p3, iv 2, rv eC, .val (.long ll), .second, .val (.long la), .second, .val (.long ld), .second, rv bo313, .unset, .unset, .unset, .unset, .unset, .unset, .unset, .unset, .unset, .unset, .unset] [])) rfl (by rw [hml]; rfl) (argsL := []) (rest := []) (lenOf pd_25 rfl) rfl (by show 2 * 0 + _ ≤ _; exact Nat.le_of_eq rfl) (hb hby at_87) (fun _ _ => ⟨rfl, rfl, (by decide : 2 + 11 ≤ _), (by decide : 4 + 445 ≤ _)⟩)
  dsimp only [Pt.U, Pt.locs, Pt.cells, Pt.slots] at X322 l322 y322 z322 st322 hQ322 hS322 gr322
  subst l322 y322 z322
  have hS := hS.trans hS322 (Nat.le_trans hk (by rw [← show T313.heap = T313.heap from rfl]; exact gr322))
  have hZ : Z.Warmed39 (s.setVm T322.vm).vm := State.Warmed39.trans hZ hS322.1
  have hown : (s.setVm T322.vm).vm.findClass "com/example/ratabl/ratabl/engine/LockOfPinLaw" = some m.cls := by rw [show (s.setVm T322.vm).vm = T322.vm from rfl, hS322.1.alike.findClass]; exact hown
  have X322 : Stand p l e room_1 (s.setVm T322.vm) m #[(.int p0), (.int p1), (.int p2), (.int p3)] below meth c T322 _ _ _ := X322
  have hk : T322.heap.size ≤ T322.heap.size := Nat.le_refl _
  obtain ⟨bs322, rfl, N322q, K322, A322, Ga322, Gc322⟩ := hQ322
  have N322 := Fr.app N313 N322q
  have fa323 := fa314.keep K322 all0
  have fa324 := fa315.keep K322
  have fa325 := fa316.keep K322 nin0
  have fa326 := fa317.keep K322 nin0
  have fa327 := fa318.keep K322 nin0
  have fa328 := A313.keep K322
  have fa329 := Gv313.keep K322 nin0
  have z330 : n0 ≤ T322.heap.size := Nat.le_trans z319 K322.1
  have kp331 : Keep h0 T322.heap [] := kp320.trans K322 all0
  obtain ⟨T332, h332, X332, e332, E332, A332, D332, -, st332⟩ := newO X322 hx hZ hown (hq hw 64 rfl) (hq hw 15 rfl) (hq hw 12 rfl) rfl (g := (mkF m 92 #[iv p0, iv p1, iv p2, iv p3, iv 2, rv eC, .val (.long ll), .second, .val (.long la), .second, .val (.long ld), .second, rv bo313, rv bs322, .unset, .unset, .unset, .unset, .unset, .unset, .unset, .unset, .unset, .unset] [])) rfl (hb hby at_92) (by decide) (by decide)
  obtain ⟨b332, g332⟩ : ∃ z, z = T322.heap.size := ⟨_, rfl⟩
  rw [← g332] at A332 D332 st332
  have g_b332 : n0 ≤ b332 := Nat.le_trans z330 (Nat.le_of_eq g332.symm)
  have sz_b332 : h0.size ≤ b332 := Nat.le_trans kp331.1 (Nat.le_of_eq g332.symm)
  have ne_bd308_b332 : bd308 ≠ b332 := Nat.ne_of_lt (Nat.lt_of_lt_of_le fa324.lt (Nat.le_of_eq g332.symm))
  have ne_bo313_b332 : bo313 ≠ b332 := Nat.ne_of_lt (Nat.lt_of_lt_of_le fa328.lt (Nat.le_of_eq g332.symm))
  have ne_bs322_b332 : bs322 ≠ b332 := Nat.ne_of_lt (Nat.lt_of_lt_of_le A322.lt (Nat.le_of_eq g332.symm))
  have fa333 := fa323.ext E332
  have fa334 := fa324.ext E332
  have fa335 := fa325.ext E332
  have fa336 := fa326.ext E332
  have fa337 := fa327.ext E332
  have fa338 := fa328.ext E332
  have fa339 := fa329.ext E332
  have fa340 := A322.ext E332
  have fa341 := Ga322.ext E332
  have fa342 := Gc322.ext E332
  have z343 : n0 ≤ h332.size := Nat.le_trans z330 E332.1
  have hk := Nat.le_trans hk E332.1
  have kp344 : Keep h0 h332 [] := kp331.ext E332
  have fa345 : Fld Z h332 b332 "com/example/ratabl/ratabl/model/Settings" "allocationPartialProrationStrategy" "Lcom/example/ratabl/ratabl/model/ProrationStrategy;" .null := D332 (Or.inr (hq hw 55 rfl)) (ty := (.object "com/example/ratabl/ratabl/model/ProrationStrategy")) (by decide)
  have fa346 : Fld Z h332 b332 "com/example/ratabl/ratabl/model/Settings" "creditNoteRevenueImpact" "Lcom/example/ratabl/ratabl/model/CreditNoteRevenueImpact;" .null := D332 (Or.inr (hq hw 57 rfl)) (ty := (.object "com/example/ratabl/ratabl/model/CreditNoteRevenueImpact")) (by decide)
  have fa347 : Fld Z h332 b332 "com/example/ratabl/ratabl/model/Settings" "lockDateMethod" "Lcom/example/ratabl/ratabl/model/LockDateMethod;" .null := D332 (Or.inr (hq hw 59 rfl)) (ty := (.object "com/example/ratabl/ratabl/model/LockDateMethod")) (by decide)
  have fa348 : Fld Z h332 b332 "com/example/ratabl/ratabl/model/Settings" "customLockDate" "Ljava/util/Optional;" .null := D332 (Or.inr (hq hw 61 rfl)) (ty := (.object "java/util/Optional")) (by decide)
  have fa349 : Fld Z h332 b332 "com/example/ratabl/ratabl/model/Settings" "accountingDateSource" "Lcom/example/ratabl/ratabl/model/AccountingDateSource;" .null := D332 (Or.inr (hq hw 63 rfl)) (ty := (.object "com/example/ratabl/ratabl/model/AccountingDateSource")) (by decide)
  have G350 : ∀ t, Steps p.tables e below (T332.setTop (mkF m 98 #[iv p0, iv p1, iv p2, iv p3, iv 2, rv eC, .val (.long ll), .second, .val (.long la), .second, .val (.long ld), .second, rv bo313, rv bs322, .unset, .unset, .unset, .unset, .unset, .unset, .unset, .unset, .unset, .unset] [(.ref bs322), (.ref b332), (.ref b332)])) t → Steps p.tables e below (s₁.setTop (entryFrame m #[(.int p0), (.int p1), (.int p2), (.int p3)] maxLocals)) t := by
   intro t kt
   refine G321 _ ?_
   refine st322.trans ?_
   refine XS.astore X322.here hx rfl (hb hby at_90) rfl rfl (l' := #[iv p0, iv p1, iv p2, iv p3, iv 2, rv eC, .val (.long ll), .second, .val (.long la), .second, .val (.long ld), .second, rv bo313, rv bs322, .unset, .unset, .unset, .unset, .unset, .unset, .unset, .unset, .unset, .unset]) rfl ?_
   refine st332 _ ?_
   refine XS.dup X332.here hx rfl (hb hby at_95) rfl rfl ?_
   refine XS.aload X332.here hx rfl (hb hby at_96) rfl rfl ?_
   exact kt
  obtain ⟨cq351, kq351, q351a, q351b, q351c⟩ := isOf hZ e332 fa340
  obtain ⟨_, _, ⟨T351, L351, k351, n351⟩, -, X351, ⟨Lc351, hQ351, l351, y351, z351⟩, st351⟩ := X332.virtualBack hx (y := (⟨"com/example/ratabl/ratabl/model/Settings", "allocationPartialProrationStrategy", "()Lcom/example/ratabl/ratabl/model/ProrationStrategy;"⟩ : MethodName)) (z := (⟨"com/example/ratabl/ratabl/model/Settings", "allocationPartialProrationStrategy", "()Lcom/example/ratabl/ratabl/model/ProrationStrategy;"⟩ : MethodName)) hown (mvT hZ (hq hw 65 rfl)) (mvT hZ (hq hw 66 rfl)) (notFace_of_selects (args := #[]) (mvT hZ (hq hw 68 rfl))) (mvT hZ (hq hw 68 rfl)) (mvT hZ (hq hw 67 rfl)) (by decide) (backOf (W := 2) (rm7 l Z a0 hw [] bs322 ps h332 n0 z343 fa341 ) hZ (hq hw 69 rfl) (hq hw 12 rfl) (by decide) (by decide)) q351a q351c (g := (mkF m 98 #[iv p0, iv p1, iv p2, iv p3, iv 2, rv eC, .val (.long ll), .second, .val (.long la), .second, .val (.long ld), .second, rv bo313, rv bs322, .unset, .unset, .unset, .unset, .unset, .unset, .unset, .unset, .unset, .unset] [(.ref bs322), (.ref b332), (.ref b332)])) rfl (by rw [hml]; rfl) (Steps.refl _) (argsL := []) (rest := [(.ref b332), (.ref b332)]) (lenOf pd_26 rfl) rfl (by show 2 * 0 + _ ≤ _; exact Nat.le_of_eq rfl) (hb hby at_98) (fun _ _ => ⟨rfl, e332, (by decide : 14 + 0 ≤ _), (by decide : 454 + 0 ≤ _)⟩)
  dsimp only [Pt.U, Pt.locs, Pt.cells, Pt.slots] at X351 l351 y351 z351 st351 hQ351
  subst l351 y351 z351
  obtain ⟨rfl, N351q, eh351⟩ := hQ351
  have N351 := Fr.app N322 N351q
  have G352 : ∀ t, Steps p.tables e below (T351.setTop (mkF m 103 #[iv p0, iv p1, iv p2, iv p3, iv 2, rv eC, .val (.long ll), .second, .val (.long la), .second, .val (.long ld), .second, rv bo313, rv bs322, .unset, .unset, .unset, .unset, .unset, .unset, .unset, .unset, .unset, .unset] [(.ref bs322), (.ref ps), (.ref b332), (.ref b332)])) t → Steps p.tables e below (s₁.setTop (entryFrame m #[(.int p0), (.int p1), (.int p2), (.int p3)] maxLocals)) t := by
   intro t kt
   refine G350 _ ?_
   show Steps p.tables e below (T332.setTop (mkF m 98 #[iv p0, iv p1, iv p2, iv p3, iv 2, rv eC, .val (.long ll), .second, .val (.long la), .second, .val (.long ld), .second, rv bo313, rv bs322, .unset, .unset, .unset, .unset, .unset, .unset, .unset, .unset, .unset, .unset] [(.ref bs322), (.ref b332), (.ref b332)])) _
   refine st351.trans ?_
   refine XS.aload X351.here hx rfl (hb hby at_101) rfl rfl ?_
   exact kt
  obtain ⟨cq353, kq353, q353a, q353b, q353c⟩ := isOf hZ eh351 fa340
  obtain ⟨_, _, ⟨T353, L353, k353, n353⟩, -, X353, ⟨Lc353, hQ353, l353, y353, z353⟩, st353⟩ := X351.virtualBack hx (y := (⟨"com/example/ratabl/ratabl/model/Settings", "creditNoteRevenueImpact", "()Lcom/example/ratabl/ratabl/model/CreditNoteRevenueImpact;"⟩ : MethodName)) (z := (⟨"com/example/ratabl/ratabl/model/Settings", "creditNoteRevenueImpact", "()Lcom/example/ratabl/ratabl/model/CreditNoteRevenueImpact;"⟩ : MethodName)) hown (mvT hZ (hq hw 70 rfl)) (mvT hZ (hq hw 71 rfl)) (notFace_of_selects (args := #[]) (mvT hZ (hq hw 73 rfl))) (mvT hZ (hq hw 73 rfl)) (mvT hZ (hq hw 72 rfl)) (by decide) (backOf (W := 3) (rm8 l Z a0 hw [] bs322 crr h332 n0 z343 fa342 ) hZ (hq hw 74 rfl) (hq hw 12 rfl) (by decide) (by decide)) q353a q353c (g := (mkF m 103 #[iv p0, iv p1, iv p2, iv p3, iv 2, rv eC, .val (.long ll), .second, .val (.long la), .second, .val (.long ld), .second, rv bo313, rv bs322, .unset, .unset, .unset, .unset, .unset, .unset, .unset, .unset, .unset, .unset] [(.ref bs322), (.ref ps), (.ref b332), (.ref b332)])) rfl (by rw [hml]; rfl) (Steps.refl _) (argsL := []) (rest := [(.ref ps), (.ref b332), (.ref b332)]) (lenOf pd_27 rfl) rfl (by show 2 * 0 + _ ≤ _; exact Nat.le_of_eq rfl) (hb hby at_103) (fun _ _ => ⟨rfl, eh351, (by decide : 14 + 0 ≤ _), (by decide : 454 + 0 ≤ _)⟩)
  dsimp only [Pt.U, Pt.locs, Pt.cells, Pt.slots] at X353 l353 y353 z353 st353 hQ353
  subst l353 y353 z353
  obtain ⟨rfl, N353q, eh353⟩ := hQ353
  have N353 := Fr.app N351 N353q
  have G354 : ∀ t, Steps p.tables e below (T353.setTop (mkF m 110 #[iv p0, iv p1, iv p2, iv p3, iv 2, rv eC, .val (.long ll), .second, .val (.long la), .second, .val (.long ld), .second, rv bo313, rv bs322, .unset, .unset, .unset, .unset, .unset, .unset, .unset, .unset, .unset, .unset] [(.ref bo313), (.ref eC), (.ref crr), (.ref ps), (.ref b332), (.ref b332)])) t → Steps p.tables e below (s₁.setTop (entryFrame m #[(.int p0), (.int p1), (.int p2), (.int p3)] maxLocals)) t := by
   intro t kt
   refine G352 _ ?_
   refine st353.trans ?_
   refine XS.aload X353.here hx rfl (hb hby at_106) rfl rfl ?_
   refine XS.aload X353.here hx rfl (hb hby at_108) rfl rfl ?_
   exact kt
  obtain ⟨_, vm355, ⟨T355, L355, k355, n355⟩, -, X355, hS355, gr355, ⟨Lc355, hQ355, l355, y355, z355⟩, st355⟩ := X353.specialBackS hx (y := (⟨"com/example/ratabl/ratabl/model/Settings", "<init>", "(Lcom/example/ratabl/ratabl/model/ProrationStrategy;Lcom/example/ratabl/ratabl/model/CreditNoteRevenueImpact;Lcom/example/ratabl/ratabl/model/LockDateMethod;Ljava/util/Optional;)V"⟩ : MethodName)) rfl hown (mvT hZ (hq hw 75 rfl)) (mvT hZ (hq hw 76 rfl)) (mvT hZ (hq hw 77 rfl)) (by decide) (backOfS (W := 1) (rm9 l Z a0 hw [] b332 ps crr eC bo313 eN eA eC ps crr ads sw oe efd rfd eyr ryr bt bf ic ksw h332 n0 z343 A332 fa345 fa346 fa347 fa348 fa349 fa333 g_b332 SS) hZ (hq hw 77 rfl) (hq hw 12 rfl) (by decide) (by decide)) (g := (mkF m 110 #[iv p0, iv p1, iv p2, iv p3, iv 2, rv eC, .val (.long ll), .second, .val (.long la), .second, .val (.long ld), .second, rv bo313, rv bs322, .unset, .unset, .unset, .unset, .unset, .unset, .unset, .unset, .unset, .unset] [(.ref bo313), (.ref eC), (.ref crr), (.ref ps), (.ref b332), (.ref b332)])) rfl (by rw [hml]; rfl) (Steps.refl _) (a := b332) (argsL := [(.ref ps), (.ref crr), (.ref eC), (.ref bo313)]) (rest := [(.ref b332)]) (lenOf pd_28 rfl) rfl (by show 2 * 0 + _ ≤ _; exact Nat.le_of_eq rfl) (hb hby at_110) (fun _ _ => ⟨rfl, eh353, (by decide : 14 + 10 ≤ _), (by decide : 454 + 440 ≤ _)⟩)
  dsimp only [Pt.U, Pt.locs, Pt.cells, Pt.slots] at X355 l355 y355 z355 st355 hQ355 hS355 gr355
  subst l355 y355 z355
  have hS := hS.trans hS355 (Nat.le_trans hk (by rw [← show T353.heap = h332 from eh353]; exact gr355))
  have hZ : Z.Warmed39 (s.setVm T355.vm).vm := State.Warmed39.trans hZ hS355.1
  have hown : (s.setVm T355.vm).vm.findClass "com/example/ratabl/ratabl/engine/LockOfPinLaw" = some m.cls := by rw [show (s.setVm T355.vm).vm = T355.vm from rfl, hS355.1.alike.findClass]; exact hown
  have X355 : Stand p l e room_1 (s.setVm T355.vm) m #[(.int p0), (.int p1), (.int p2), (.int p3)] below meth c T355 _ _ _ := X355
  have hk : T355.heap.size ≤ T355.heap.size := Nat.le_refl _
  obtain ⟨rfl, N355q, K355, A355, F355_0, F355_1, F355_2, F355_3⟩ := hQ355
  have N355 := Fr.app N353 N355q
  have fa356 := fa333.keep K355 (allS g_b332 all0)
  have fa357 := fa334.keep K355
  have fa358 := fa335.keep K355 (ninS ne_bd308_b332 nin0)
  have fa359 := fa336.keep K355 (ninS ne_bd308_b332 nin0)
  have fa360 := fa337.keep K355 (ninS ne_bd308_b332 nin0)
  have fa361 := fa338.keep K355
  have fa362 := fa339.keep K355 (ninS ne_bo313_b332 nin0)
  have fa363 := fa340.keep K355
  have fa364 := fa341.keep K355 (ninS ne_bs322_b332 nin0)
  have fa365 := fa342.keep K355 (ninS ne_bs322_b332 nin0)
  have fa366 := A332.keep K355
  have z367 : n0 ≤ T355.heap.size := Nat.le_trans z343 K355.1
  have kp368 : Keep h0 T355.heap [] := kp344.trans K355 (allS (Or.inr sz_b332) all0)
  have G369 : ∀ t, Steps p.tables e below (T355.setTop (mkF m 117 #[iv p0, iv p1, iv p2, iv p3, iv 2, rv eC, .val (.long ll), .second, .val (.long la), .second, .val (.long ld), .second, rv bo313, rv bs322, rv b332, .unset, .unset, .unset, .unset, .unset, .unset, .unset, .unset, .unset] [(.ref b332)])) t → Steps p.tables e below (s₁.setTop (entryFrame m #[(.int p0), (.int p1), (.int p2), (.int p3)] maxLocals)) t := by
   intro t kt
   refine G354 _ ?_
   refine st355.trans ?_
   refine XS.astore X355.here hx rfl (hb hby at_113) rfl rfl (l' := #[iv p0, iv p1, iv p2, iv p3, iv 2, rv eC, .val (.long ll), .second, .val (.long la), .second, .val (.long ld), .second, rv bo313, rv bs322, rv b332, .unset, .unset, .unset, .unset, .unset, .unset, .unset, .unset, .unset]) rfl ?_
   refine XS.aload X355.here hx rfl (hb hby at_115) rfl rfl ?_
   exact kt
  obtain ⟨_, _, ⟨T370, L370, k370, n370⟩, -, X370, ⟨Lc370, hQ370, l370, y370, z370⟩, st370⟩ := Jvm.LawKit.callS X355 hx (y := (⟨"com/example/ratabl/ratabl/engine/Lock", "of", "(Lcom/example/ratabl/ratabl/model/Settings;)Lcom/example/ratabl/ratabl/engine/Lock;"⟩ : MethodName)) hown (mvT hZ (hq hw 78 rfl)) (mvT hZ (hq hw 79 rfl)) (mvT hZ (hq hw 80 rfl)) (mvT hZ (hq hw 81 rfl)) (by decide) (backOf (W := 0) (rm10 l Z a0 hw [] b332 eC bo313 T355.heap n0 z367 fa366 F355_2 F355_3 ) hZ (hq hw 81 rfl) (hq hw 80 rfl) (by decide) (by decide)) (g := (mkF m 117 #[iv p0, iv p1, iv p2, iv p3, iv 2, rv eC, .val (.long ll), .second, .val (.long la), .second, .val (.long ld), .second, rv bo313, rv bs322, rv b332, .unset, .unset, .unset, .unset, .unset, .unset, .unset, .unset, .unset] [(.ref b332)])) rfl (by rw [hml]; rfl) (argsL := [(.ref b332)]) (rest := []) (lenOf pd_29 rfl) rfl (by show 2 * 0 + _ ≤ _; exact Nat.le_of_eq rfl) (hb hby at_117) (fun _ _ => ⟨rfl, rfl, (by decide : 24 + 1 ≤ _), (by decide : 894 + 2 ≤ _)⟩)
  dsimp only [Pt.U, Pt.locs, Pt.cells, Pt.slots] at X370 l370 y370 z370 st370 hQ370
  subst l370 y370 z370
  obtain ⟨bl370, rfl, N370q, K370, A370, Gm370, Go370⟩ := hQ370
  have N370 := Fr.app N355 N370q
  have fa371 := fa356.keep K370 all0
  have fa372 := fa357.keep K370
  have fa373 := fa358.keep K370 nin0
  have fa374 := fa359.keep K370 nin0
  have fa375 := fa360.keep K370 nin0
  have fa376 := fa361.keep K370
  have fa377 := fa362.keep K370 nin0
  have fa378 := fa363.keep K370
  have fa379 := fa364.keep K370 nin0
  have fa380 := fa365.keep K370 nin0
  have fa381 := fa366.keep K370
  have fa382 := F355_0.keep K370 nin0
  have fa383 := F355_1.keep K370 nin0
  have fa384 := F355_2.keep K370 nin0
  have fa385 := F355_3.keep K370 nin0
  have z386 : n0 ≤ T370.heap.size := Nat.le_trans z367 K370.1
  have hk := Nat.le_trans hk K370.1
  have kp387 : Keep h0 T370.heap [] := kp368.trans K370 all0
  have G388 : ∀ t, Steps p.tables e below (T370.setTop (mkF m 124 #[iv p0, iv p1, iv p2, iv p3, iv 2, rv eC, .val (.long ll), .second, .val (.long la), .second, .val (.long ld), .second, rv bo313, rv bs322, rv b332, rv bl370, .unset, .unset, .unset, .unset, .unset, .unset, .unset, .unset] [(.long la)])) t → Steps p.tables e below (s₁.setTop (entryFrame m #[(.int p0), (.int p1), (.int p2), (.int p3)] maxLocals)) t := by
   intro t kt
   refine G369 _ ?_
   refine st370 _ ?_
   refine XS.astore X370.here hx rfl (hb hby at_120) rfl rfl (l' := #[iv p0, iv p1, iv p2, iv p3, iv 2, rv eC, .val (.long ll), .second, .val (.long la), .second, .val (.long ld), .second, rv bo313, rv bs322, rv b332, rv bl370, .unset, .unset, .unset, .unset, .unset, .unset, .unset, .unset]) rfl ?_
   refine XS.lload X370.here hx rfl (hb hby at_122) rfl ?_
   exact kt
  obtain ⟨_, _, ⟨T389, L389, k389, n389⟩, -, X389, ⟨Lc389, hQ389, l389, y389, z389⟩, st389⟩ := Jvm.LawKit.callS X370 hx (y := (⟨"java/time/LocalDate", "ofEpochDay", "(J)Ljava/time/LocalDate;"⟩ : MethodName)) hown (mvT hZ (hq hw 102 rfl)) (mvT hZ (hq hw 103 rfl)) (mvT hZ (hq hw 104 rfl)) (mvT hZ (hq hw 105 rfl)) (by decide) (backOf (W := 0) (rm14 l Z a0 hw [] la eN eA eC ps crr ads sw oe efd rfd eyr ryr bt bf ic ksw  T370.heap n0 z386 fa371  SS (by omega)) hZ (hq hw 105 rfl) (hq hw 104 rfl) (by decide) (by decide)) (g := (mkF m 124 #[iv p0, iv p1, iv p2, iv p3, iv 2, rv eC, .val (.long ll), .second, .val (.long la), .second, .val (.long ld), .second, rv bo313, rv bs322, rv b332, rv bl370, .unset, .unset, .unset, .unset, .unset, .unset, .unset, .unset] [(.long la)])) rfl (by rw [hml]; rfl) (argsL := [(.long la)]) (rest := []) (lenOf pd_19 rfl) rfl (by show 2 * 0 + _ ≤ _; exact Nat.le_of_eq rfl) (hb hby at_124) (fun _ _ => ⟨rfl, rfl, (by decide : 25 + 1 ≤ _), (by decide : 896 + 3 ≤ _)⟩)
  dsimp only [Pt.U, Pt.locs, Pt.cells, Pt.slots] at X389 l389 y389 z389 st389 hQ389
  subst l389 y389 z389
  obtain ⟨bd389, yd389, md389, dd389, rfl, N389q, K389, A389, Gy389, Gm389, Gd389, DT389⟩ := hQ389
  have N389 := Fr.app N370 N389q
  have fa390 := fa371.keep K389 all0
  have fa391 := fa372.keep K389
  have fa392 := fa373.keep K389 nin0
  have fa393 := fa374.keep K389 nin0
  have fa394 := fa375.keep K389 nin0
  have fa395 := fa376.keep K389
  have fa396 := fa377.keep K389 nin0
  have fa397 := fa378.keep K389
  have fa398 := fa379.keep K389 nin0
  have fa399 := fa380.keep K389 nin0
  have fa400 := fa381.keep K389
  have fa401 := fa382.keep K389 nin0
  have fa402 := fa383.keep K389 nin0
  have fa403 := fa384.keep K389 nin0
  have fa404 := fa385.keep K389 nin0
  have fa405 := A370.keep K389
  have fa406 := Gm370.keep K389 nin0
  have fa407 := Go370.keep K389 nin0
  have z408 : n0 ≤ T389.heap.size := Nat.le_trans z386 K389.1
  have hk := Nat.le_trans hk K389.1
  have kp409 : Keep h0 T389.heap [] := kp387.trans K389 all0
  have G410 : ∀ t, Steps p.tables e below (T389.setTop (mkF m 131 #[iv p0, iv p1, iv p2, iv p3, iv 2, rv eC, .val (.long ll), .second, .val (.long la), .second, .val (.long ld), .second, rv bo313, rv bs322, rv b332, rv bl370, rv bd389, .unset, .unset, .unset, .unset, .unset, .unset, .unset] [(.long ld)])) t → Steps p.tables e below (s₁.setTop (entryFrame m #[(.int p0), (.int p1), (.int p2), (.int p3)] maxLocals)) t := by
   intro t kt
   refine G388 _ ?_
   refine st389 _ ?_
   refine XS.astore X389.here hx rfl (hb hby at_127) rfl rfl (l' := #[iv p0, iv p1, iv p2, iv p3, iv 2, rv eC, .val (.long ll), .second, .val (.long la), .second, .val (.long ld), .second, rv bo313, rv bs322, rv b332, rv bl370, rv bd389, .unset, .unset, .unset, .unset, .unset, .unset, .unset]) rfl ?_
   refine XS.lload X389.here hx rfl (hb hby at_129) rfl ?_
   exact kt
  obtain ⟨_, _, ⟨T411, L411, k411, n411⟩, -, X411, ⟨Lc411, hQ411, l411, y411, z411⟩, st411⟩ := Jvm.LawKit.callS X389 hx (y := (⟨"java/time/LocalDate", "ofEpochDay", "(J)Ljava/time/LocalDate;"⟩ : MethodName)) hown (mvT hZ (hq hw 102 rfl)) (mvT hZ (hq hw 103 rfl)) (mvT hZ (hq hw 104 rfl)) (mvT hZ (hq hw 105 rfl)) (by decide) (backOf (W := 0) (rm14 l Z a0 hw [] ld eN eA eC ps crr ads sw oe efd rfd eyr ryr bt bf ic ksw  T389.heap n0 z408 fa390  SS hbd) hZ (hq hw 105 rfl) (hq hw 104 rfl) (by decide) (by decide)) (g := (mkF m 131 #[iv p0, iv p1, iv p2, iv p3, iv 2, rv eC, .val (.long ll), .second, .val (.long la), .second, .val (.long ld), .second, rv bo313, rv bs322, rv b332, rv bl370, rv bd389, .unset, .unset, .unset, .unset, .unset, .unset, .unset] [(.long ld)])) rfl (by rw [hml]; rfl) (argsL := [(.long ld)]) (rest := []) (lenOf pd_19 rfl) rfl (by show 2 * 0 + _ ≤ _; exact Nat.le_of_eq rfl) (hb hby at_131) (fun _ _ => ⟨rfl, rfl, (by decide : 26 + 1 ≤ _), (by decide : 899 + 3 ≤ _)⟩)
  dsimp only [Pt.U, Pt.locs, Pt.cells, Pt.slots] at X411 l411 y411 z411 st411 hQ411
  subst l411 y411 z411
  obtain ⟨bd411, yd411, md411, dd411, rfl, N411q, K411, A411, Gy411, Gm411, Gd411, DT411⟩ := hQ411
  have N411 := Fr.app N389 N411q
  have fa412 := fa390.keep K411 all0
  have fa413 := fa391.keep K411
  have fa414 := fa392.keep K411 nin0
  have fa415 := fa393.keep K411 nin0
  have fa416 := fa394.keep K411 nin0
  have fa417 := fa395.keep K411
  have fa418 := fa396.keep K411 nin0
  have fa419 := fa397.keep K411
  have fa420 := fa398.keep K411 nin0
  have fa421 := fa399.keep K411 nin0
  have fa422 := fa400.keep K411
  have fa423 := fa401.keep K411 nin0
  have fa424 := fa402.keep K411 nin0
  have fa425 := fa403.keep K411 nin0
  have fa426 := fa404.keep K411 nin0
  have fa427 := fa405.keep K411
  have fa428 := fa406.keep K411 nin0
  have fa429 := fa407.keep K411 nin0
  have fa430 := A389.keep K411
  have fa431 := Gy389.keep K411 nin0
  have fa432 := Gm389.keep K411 nin0
  have fa433 := Gd389.keep K411 nin0
  have z434 : n0 ≤ T411.heap.size := Nat.le_trans z408 K411.1
  have hk := Nat.le_trans hk K411.1
  have kp435 : Keep h0 T411.heap [] := kp409.trans K411 all0
  have G436 : ∀ t, Steps p.tables e below (T411.setTop (mkF m 142 #[iv p0, iv p1, iv p2, iv p3, iv 2, rv eC, .val (.long ll), .second, .val (.long la), .second, .val (.long ld), .second, rv bo313, rv bs322, rv b332, rv bl370, rv bd389, rv bd411, .unset, .unset, .unset, .unset, .unset, .unset] [(.ref bd411), (.ref bd389), (.ref bl370)])) t → Steps p.tables e below (s₁.setTop (entryFrame m #[(.int p0), (.int p1), (.int p2), (.int p3)] maxLocals)) t := by
   intro t kt
   refine G410 _ ?_
   refine st411 _ ?_
   refine XS.astore X411.here hx rfl (hb hby at_134) rfl rfl (l' := #[iv p0, iv p1, iv p2, iv p3, iv 2, rv eC, .val (.long ll), .second, .val (.long la), .second, .val (.long ld), .second, rv bo313, rv bs322, rv b332, rv bl370, rv bd389, rv bd411, .unset, .unset, .unset, .unset, .unset, .unset]) rfl ?_
   refine XS.aload X411.here hx rfl (hb hby at_136) rfl rfl ?_
   refine XS.aload X411.here hx rfl (hb hby at_138) rfl rfl ?_
   refine XS.aload X411.here hx rfl (hb hby at_140) rfl rfl ?_
   exact kt
  obtain ⟨cq437, kq437, q437a, q437b, q437c⟩ := isOf hZ rfl fa427
  obtain ⟨_, _, ⟨T437, L437, k437, n437⟩, -, X437, ⟨Lc437, hQ437, l437, y437, z437⟩, st437⟩ := X411.virtualBack hx (y := (⟨"com/example/ratabl/ratabl/engine/Lock", "closes", "(Ljava/time/LocalDate;Ljava/time/LocalDate;)Z"⟩ : MethodName)) (z := (⟨"com/example/ratabl/ratabl/engine/Lock", "closes", "(Ljava/time/LocalDate;Ljava/time/LocalDate;)Z"⟩ : MethodName)) hown (mvT hZ (hq hw 166 rfl)) (mvT hZ (hq hw 167 rfl)) (notFace_of_selects (args := #[]) (mvT hZ (hq hw 169 rfl))) (mvT hZ (hq hw 169 rfl)) (mvT hZ (hq hw 168 rfl)) (by decide) (backOf (W := 0) (rmCl2 l Z a0 hw [] bl370 bd389 bd411 eN eA eC ps crr ads sw oe efd rfd eyr ryr bt bf ic ksw yd411 md411 dd411 (ld.toInt) bo313 bd308 yd308 md308 dd308 (ll.toInt) T411.heap n0 z434 fa412 fa427 fa428 fa429 fa417 fa418 fa413 fa414 fa415 fa416 A411 Gy411 Gm411 Gd411  SS DT411 DT308 (by omega)) hZ (hq hw 170 rfl) (hq hw 80 rfl) (by decide) (by decide)) q437a q437c (g := (mkF m 142 #[iv p0, iv p1, iv p2, iv p3, iv 2, rv eC, .val (.long ll), .second, .val (.long la), .second, .val (.long ld), .second, rv bo313, rv bs322, rv b332, rv bl370, rv bd389, rv bd411, .unset, .unset, .unset, .unset, .unset, .unset] [(.ref bd411), (.ref bd389), (.ref bl370)])) rfl (by rw [hml]; rfl) (Steps.refl _) (argsL := [(.ref bd389), (.ref bd411)]) (rest := []) (lenOf pd_24 rfl) rfl (by show 2 * 0 + _ ≤ _; exact Nat.le_of_eq rfl) (hb hby at_142) (fun _ _ => ⟨rfl, rfl, (by decide : 27 + 4 ≤ _), (by decide : 902 + 6 ≤ _)⟩)
  dsimp only [Pt.U, Pt.locs, Pt.cells, Pt.slots] at X437 l437 y437 z437 st437 hQ437
  subst l437 y437 z437
  obtain ⟨rfl, N437q, K437⟩ := hQ437
  have N437 := Fr.app N411 N437q
  have fa438 := fa412.keep K437 all0
  have fa439 := fa413.keep K437
  have fa440 := fa414.keep K437 nin0
  have fa441 := fa415.keep K437 nin0
  have fa442 := fa416.keep K437 nin0
  have fa443 := fa417.keep K437
  have fa444 := fa418.keep K437 nin0
  have fa445 := fa419.keep K437
  have fa446 := fa420.keep K437 nin0
  have fa447 := fa421.keep K437 nin0
  have fa448 := fa422.keep K437
  have fa449 := fa423.keep K437 nin0
  have fa450 := fa424.keep K437 nin0
  have fa451 := fa425.keep K437 nin0
  have fa452 := fa426.keep K437 nin0
  have fa453 := fa427.keep K437
  have fa454 := fa428.keep K437 nin0
  have fa455 := fa429.keep K437 nin0
  have fa456 := fa430.keep K437
  have fa457 := fa431.keep K437 nin0
  have fa458 := fa432.keep K437 nin0
  have fa459 := fa433.keep K437 nin0
  have fa460 := A411.keep K437
  have fa461 := Gy411.keep K437 nin0
  have fa462 := Gm411.keep K437 nin0
  have fa463 := Gd411.keep K437 nin0
  have z464 : n0 ≤ T437.heap.size := Nat.le_trans z434 K437.1
  have hk := Nat.le_trans hk K437.1
  have kp465 : Keep h0 T437.heap [] := kp435.trans K437 all0
  have G466 : ∀ t, Steps p.tables e below (T437.setTop (mkF m 153 #[iv p0, iv p1, iv p2, iv p3, iv 2, rv eC, .val (.long ll), .second, .val (.long la), .second, .val (.long ld), .second, rv bo313, rv bs322, rv b332, rv bl370, rv bd389, rv bd411, iv (own_lt (ld.toInt) (ll.toInt + 1)), .unset, .unset, .unset, .unset, .unset] [(.ref bd411), (.ref bd389), (.ref bl370)])) t → Steps p.tables e below (s₁.setTop (entryFrame m #[(.int p0), (.int p1), (.int p2), (.int p3)] maxLocals)) t := by
   intro t kt
   refine G436 _ ?_
   refine st437.trans ?_
   show Steps p.tables e below (T437.setTop (mkF m 145 #[iv p0, iv p1, iv p2, iv p3, iv 2, rv eC, .val (.long ll), .second, .val (.long la), .second, .val (.long ld), .second, rv bo313, rv bs322, rv b332, rv bl370, rv bd389, rv bd411, .unset, .unset, .unset, .unset, .unset, .unset] [(.int (own_lt (ld.toInt) (ll.toInt + 1)))])) _
   refine XS.istore X437.here hx rfl (hb hby at_145) rfl (l' := #[iv p0, iv p1, iv p2, iv p3, iv 2, rv eC, .val (.long ll), .second, .val (.long la), .second, .val (.long ld), .second, rv bo313, rv bs322, rv b332, rv bl370, rv bd389, rv bd411, iv (own_lt (ld.toInt) (ll.toInt + 1)), .unset, .unset, .unset, .unset, .unset]) rfl ?_
   refine XS.aload X437.here hx rfl (hb hby at_147) rfl rfl ?_
   refine XS.aload X437.here hx rfl (hb hby at_149) rfl rfl ?_
   refine XS.aload X437.here hx rfl (hb hby at_151) rfl rfl ?_
   exact kt
  obtain ⟨cq467, kq467, q467a, q467b, q467c⟩ := isOf hZ rfl fa453
  obtain ⟨_, _, ⟨T467, L467, k467, n467⟩, -, X467, ⟨Lc467, hQ467, l467, y467, z467⟩, st467⟩ := X437.virtualBack hx (y := (⟨"com/example/ratabl/ratabl/engine/Lock", "postsOn", "(Ljava/time/LocalDate;Ljava/time/LocalDate;)Ljava/time/LocalDate;"⟩ : MethodName)) (z := (⟨"com/example/ratabl/ratabl/engine/Lock", "postsOn", "(Ljava/time/LocalDate;Ljava/time/LocalDate;)Ljava/time/LocalDate;"⟩ : MethodName)) hown (mvT hZ (hq hw 227 rfl)) (mvT hZ (hq hw 228 rfl)) (notFace_of_selects (args := #[]) (mvT hZ (hq hw 230 rfl))) (mvT hZ (hq hw 230 rfl)) (mvT hZ (hq hw 229 rfl)) (by decide) (backOf (W := 0) (rmPo2 l Z a0 hw [] bl370 bd389 bd411 eN eA eC ps crr ads sw oe efd rfd eyr ryr bt bf ic ksw yd411 md411 dd411 (ld.toInt) bo313 bd308 yd308 md308 dd308 (ll.toInt) T437.heap n0 z464 fa438 fa453 fa454 fa455 fa443 fa444 fa439 fa440 fa441 fa442 fa460 fa461 fa462 fa463  SS DT411 DT308 (by omega)) hZ (hq hw 231 rfl) (hq hw 80 rfl) (by decide) (by decide)) q467a q467c (g := (mkF m 153 #[iv p0, iv p1, iv p2, iv p3, iv 2, rv eC, .val (.long ll), .second, .val (.long la), .second, .val (.long ld), .second, rv bo313, rv bs322, rv b332, rv bl370, rv bd389, rv bd411, iv (own_lt (ld.toInt) (ll.toInt + 1)), .unset, .unset, .unset, .unset, .unset] [(.ref bd411), (.ref bd389), (.ref bl370)])) rfl (by rw [hml]; rfl) (Steps.refl _) (argsL := [(.ref bd389), (.ref bd411)]) (rest := []) (lenOf pd_30 rfl) rfl (by show 2 * 0 + _ ≤ _; exact Nat.le_of_eq rfl) (hb hby at_153) (fun _ _ => ⟨rfl, rfl, (by decide : 31 + 6 ≤ _), (by decide : 908 + 10 ≤ _)⟩)
  dsimp only [Pt.U, Pt.locs, Pt.cells, Pt.slots] at X467 l467 y467 z467 st467 hQ467
  subst l467 y467 z467
  obtain ⟨bd467, yd467, md467, dd467, rfl, N467q, K467, A467, Gy467, Gm467, Gd467, DT467⟩ := hQ467
  have N467 := Fr.app N437 N467q
  have fa468 := fa438.keep K467 all0
  have fa469 := fa439.keep K467
  have fa470 := fa440.keep K467 nin0
  have fa471 := fa441.keep K467 nin0
  have fa472 := fa442.keep K467 nin0
  have fa473 := fa443.keep K467
  have fa474 := fa444.keep K467 nin0
  have fa475 := fa445.keep K467
  have fa476 := fa446.keep K467 nin0
  have fa477 := fa447.keep K467 nin0
  have fa478 := fa448.keep K467
  have fa479 := fa449.keep K467 nin0
  have fa480 := fa450.keep K467 nin0
  have fa481 := fa451.keep K467 nin0
  have fa482 := fa452.keep K467 nin0
  have fa483 := fa453.keep K467
  have fa484 := fa454.keep K467 nin0
  have fa485 := fa455.keep K467 nin0
  have fa486 := fa456.keep K467
  have fa487 := fa457.keep K467 nin0
  have fa488 := fa458.keep K467 nin0
  have fa489 := fa459.keep K467 nin0
  have fa490 := fa460.keep K467
  have fa491 := fa461.keep K467 nin0
  have fa492 := fa462.keep K467 nin0
  have fa493 := fa463.keep K467 nin0
  have z494 : n0 ≤ T467.heap.size := Nat.le_trans z464 K467.1
  have hk := Nat.le_trans hk K467.1
  have kp495 : Keep h0 T467.heap [] := kp465.trans K467 all0
  have G496 : ∀ t, Steps p.tables e below (T467.setTop (mkF m 156 #[iv p0, iv p1, iv p2, iv p3, iv 2, rv eC, .val (.long ll), .second, .val (.long la), .second, .val (.long ld), .second, rv bo313, rv bs322, rv b332, rv bl370, rv bd389, rv bd411, iv (own_lt (ld.toInt) (ll.toInt + 1)), .unset, .unset, .unset, .unset, .unset] [(.ref bd467)])) t → Steps p.tables e below (s₁.setTop (entryFrame m #[(.int p0), (.int p1), (.int p2), (.int p3)] maxLocals)) t := by
   intro t kt
   refine G466 _ ?_
   refine st467.trans ?_
   exact kt
  obtain ⟨cq497, kq497, q497a, q497b, q497c⟩ := isOf hZ rfl A467
  obtain ⟨_, _, ⟨T497, L497, k497, n497⟩, -, X497, ⟨Lc497, hQ497, l497, y497, z497⟩, st497⟩ := X467.virtualBack hx (y := (⟨"java/time/LocalDate", "toEpochDay", "()J"⟩ : MethodName)) (z := (⟨"java/time/LocalDate", "toEpochDay", "()J"⟩ : MethodName)) hown (mvT hZ (hq hw 233 rfl)) (mvT hZ (hq hw 234 rfl)) (notFace_of_selects (args := #[]) (mvT hZ (hq hw 236 rfl))) (mvT hZ (hq hw 236 rfl)) (mvT hZ (hq hw 235 rfl)) (by decide) (backOf (W := 0) (rm32 l Z a0 hw [] bd467 eN eA eC ps crr ads sw oe efd rfd eyr ryr bt bf ic ksw yd467 md467 dd467 (if ld.toInt < ll.toInt + 1 then ll.toInt + 1 else ld.toInt) T467.heap n0 z494 fa468 A467 Gy467 Gm467 Gd467 SS DT467) hZ (hq hw 237 rfl) (hq hw 104 rfl) (by decide) (by decide)) q497a q497c (g := (mkF m 156 #[iv p0, iv p1, iv p2, iv p3, iv 2, rv eC, .val (.long ll), .second, .val (.long la), .second, .val (.long ld), .second, rv bo313, rv bs322, rv b332, rv bl370, rv bd389, rv bd411, iv (own_lt (ld.toInt) (ll.toInt + 1)), .unset, .unset, .unset, .unset, .unset] [(.ref bd467)])) rfl (by rw [hml]; rfl) (Steps.refl _) (argsL := []) (rest := []) (lenOf pd_0 rfl) rfl (by show 2 * 0 + _ ≤ _; exact Nat.le_of_eq rfl) (hb hby at_156) (fun _ _ => ⟨rfl, rfl, (by decide : 37 + 0 ≤ _), (by decide : 918 + 0 ≤ _)⟩)
  dsimp only [Pt.U, Pt.locs, Pt.cells, Pt.slots] at X497 l497 y497 z497 st497 hQ497
  subst l497 y497 z497
  obtain ⟨qt497, rfl, hqt497, N497q, eh497⟩ := hQ497
  have N497 := Fr.app N467 N497q
  have G498 : ∀ t, Steps p.tables e below (T497.setTop (mkF m 163 #[iv p0, iv p1, iv p2, iv p3, iv 2, rv eC, .val (.long ll), .second, .val (.long la), .second, .val (.long ld), .second, rv bo313, rv bs322, rv b332, rv bl370, rv bd389, rv bd411, iv (own_lt (ld.toInt) (ll.toInt + 1)), .val (.long qt497), .second, .unset, .unset, .unset] [(.int (2 : Int32))])) t → Steps p.tables e below (s₁.setTop (entryFrame m #[(.int p0), (.int p1), (.int p2), (.int p3)] maxLocals)) t := by
   intro t kt
   refine G496 _ ?_
   refine st497.trans ?_
   refine XS.lstore X497.here hx rfl (hb hby at_159) rfl (l' := #[iv p0, iv p1, iv p2, iv p3, iv 2, rv eC, .val (.long ll), .second, .val (.long la), .second, .val (.long ld), .second, rv bo313, rv bs322, rv b332, rv bl370, rv bd389, rv bd411, iv (own_lt (ld.toInt) (ll.toInt + 1)), .val (.long qt497), .second, .unset, .unset, .unset]) rfl ?_
   refine XS.iload X497.here hx rfl (hb hby at_161) rfl ?_
   exact kt
  have G499 : ∀ t, Steps p.tables e below (T497.setTop (mkF m 179 #[iv p0, iv p1, iv p2, iv p3, iv 2, rv eC, .val (.long ll), .second, .val (.long la), .second, .val (.long ld), .second, rv bo313, rv bs322, rv b332, rv bl370, rv bd389, rv bd411, iv (own_lt (ld.toInt) (ll.toInt + 1)), .val (.long qt497), .second, .unset, .unset, .unset] [(.int (1 : Int32)), (.int (2 : Int32))])) t → Steps p.tables e below (s₁.setTop (entryFrame m #[(.int p0), (.int p1), (.int p2), (.int p3)] maxLocals)) t := by
   intro t kt
   refine G498 _ ?_
   refine XS.ifYes X497.here hx rfl (pc0 := 163) (pc' := 176) rfl (hb hby at_163) rfl ((if0 _ _).trans (feq (by decide)).2) (by decide) (by decide) ?_
   refine XS.iload X497.here hx rfl (hb hby at_176) rfl ?_
   refine XS.iconst X497.here hx rfl (hb hby at_178) ?_
   exact kt
  have G500 : ∀ t, Steps p.tables e below (T497.setTop (mkF m 219 #[iv p0, iv p1, iv p2, iv p3, iv 2, rv eC, .val (.long ll), .second, .val (.long la), .second, .val (.long ld), .second, rv bo313, rv bs322, rv b332, rv bl370, rv bd389, rv bd411, iv (own_lt (ld.toInt) (ll.toInt + 1)), .val (.long qt497), .second, .unset, .unset, .unset] [(.int (lcmpW ld ll))])) t → Steps p.tables e below (s₁.setTop (entryFrame m #[(.int p0), (.int p1), (.int p2), (.int p3)] maxLocals)) t := by
   intro t kt
   refine G499 _ ?_
   refine XS.icmpYes X497.here hx rfl (pc0 := 179) (pc' := 214) rfl (hb hby at_179) rfl (feq (by decide)).2 (by decide) (by decide) ?_
   refine XS.lload X497.here hx rfl (hb hby at_214) rfl ?_
   refine XS.lload X497.here hx rfl (hb hby at_216) rfl ?_
   refine XS.lcmp X497.here hx rfl (hb hby at_218) rfl ?_
   exact kt
  by_cases hc219_501 : ll < ld
  ·skip
   have G502 : ∀ t, Steps p.tables e below (T497.setTop (mkF m 231 #[iv p0, iv p1, iv p2, iv p3, iv 2, rv eC, .val (.long ll), .second, .val (.long la), .second, .val (.long ld), .second, rv bo313, rv bs322, rv b332, rv bl370, rv bd389, rv bd411, iv (own_lt (ld.toInt) (ll.toInt + 1)), .val (.long qt497), .second, iv 0, .unset, .unset] [(.int (0 : Int32))])) t → Steps p.tables e below (s₁.setTop (entryFrame m #[(.int p0), (.int p1), (.int p2), (.int p3)] maxLocals)) t := by
    intro t kt
    refine G500 _ ?_
    refine XS.ifYes X497.here hx rfl (pc0 := 219) (pc' := 226) rfl (hb hby at_219) rfl ((if0 _ _).trans (tlt ((lw_gt _ _).mpr hc219_501)).2.2.1) (by decide) (by decide) ?_
    refine XS.iconst X497.here hx rfl (hb hby at_226) ?_
    refine XS.istore X497.here hx rfl (hb hby at_227) rfl (l' := #[iv p0, iv p1, iv p2, iv p3, iv 2, rv eC, .val (.long ll), .second, .val (.long la), .second, .val (.long ld), .second, rv bo313, rv bs322, rv b332, rv bl370, rv bd389, rv bd411, iv (own_lt (ld.toInt) (ll.toInt + 1)), .val (.long qt497), .second, iv 0, .unset, .unset]) rfl ?_
    refine XS.iload X497.here hx rfl (hb hby at_229) rfl ?_
    exact kt
   have G503 : ∀ t, Steps p.tables e below (T497.setTop (mkF m 249 #[iv p0, iv p1, iv p2, iv p3, iv 2, rv eC, .val (.long ll), .second, .val (.long la), .second, .val (.long ld), .second, rv bo313, rv bs322, rv b332, rv bl370, rv bd389, rv bd411, iv (own_lt (ld.toInt) (ll.toInt + 1)), .val (.long qt497), .second, iv 0, .val (.long ld), .second] [(.int (0 : Int32)), (.int (own_lt (ld.toInt) (ll.toInt + 1)))])) t → Steps p.tables e below (s₁.setTop (entryFrame m #[(.int p0), (.int p1), (.int p2), (.int p3)] maxLocals)) t := by
    intro t kt
    refine G502 _ ?_
    refine XS.ifYes X497.here hx rfl (pc0 := 231) (pc' := 241) rfl (hb hby at_231) rfl ((if0 _ _).trans (teq (by decide)).1) (by decide) (by decide) ?_
    refine XS.lload X497.here hx rfl (hb hby at_241) rfl ?_
    refine XS.lstore X497.here hx rfl (hb hby at_243) rfl (l' := #[iv p0, iv p1, iv p2, iv p3, iv 2, rv eC, .val (.long ll), .second, .val (.long la), .second, .val (.long ld), .second, rv bo313, rv bs322, rv b332, rv bl370, rv bd389, rv bd411, iv (own_lt (ld.toInt) (ll.toInt + 1)), .val (.long qt497), .second, iv 0, .val (.long ld), .second]) rfl ?_
    refine XS.iload X497.here hx rfl (hb hby at_245) rfl ?_
    refine XS.iload X497.here hx rfl (hb hby at_247) rfl ?_
    exact kt
   have hc249_504 : (own_lt (ld.toInt) (ll.toInt + 1)) = (0 : Int32) := by rw [own_lt, if_neg (by have q := Int64.lt_iff_toInt_lt.mp hc219_501; omega)]
   have G505 : ∀ t, Steps p.tables e below (T497.setTop (mkF m 257 #[iv p0, iv p1, iv p2, iv p3, iv 2, rv eC, .val (.long ll), .second, .val (.long la), .second, .val (.long ld), .second, rv bo313, rv bs322, rv b332, rv bl370, rv bd389, rv bd411, iv (own_lt (ld.toInt) (ll.toInt + 1)), .val (.long qt497), .second, iv 0, .val (.long ld), .second] [(.int (lcmpW qt497 ld))])) t → Steps p.tables e below (s₁.setTop (entryFrame m #[(.int p0), (.int p1), (.int p2), (.int p3)] maxLocals)) t := by
    intro t kt
    refine G503 _ ?_
    refine XS.icmpNo X497.here hx rfl (hb hby at_249) rfl (teq hc249_504).2 ?_
    show Steps p.tables e below (T497.setTop (mkF m 252 #[iv p0, iv p1, iv p2, iv p3, iv 2, rv eC, .val (.long ll), .second, .val (.long la), .second, .val (.long ld), .second, rv bo313, rv bs322, rv b332, rv bl370, rv bd389, rv bd411, iv (own_lt (ld.toInt) (ll.toInt + 1)), .val (.long qt497), .second, iv 0, .val (.long ld), .second] [])) _
    refine XS.lload X497.here hx rfl (hb hby at_252) rfl ?_
    refine XS.lload X497.here hx rfl (hb hby at_254) rfl ?_
    refine XS.lcmp X497.here hx rfl (hb hby at_256) rfl ?_
    exact kt
   have hc257_506 : qt497 = ld := Int64.toInt_inj.mp (by rw [hqt497, if_neg (by have q := Int64.lt_iff_toInt_lt.mp hc219_501; omega)])
   obtain ⟨fs, hr, hrun, hended, hRW⟩ := X497.leaveW (s := s) hS (by rw [show T497.heap = T467.heap from eh497]; exact hk) (v := some (.int (1 : Int32))) (fun h => by rw [Bd.returns] at h; cases h) (BodyLoose.notSynchronized Bd)
   refine ⟨_, _, G505 _ ?_, hrun, hended, _, _, rfl, ?_, hRW.1, hRW.2.1, hRW.2.2.1, hRW.2.2.2.mono (by decide) (by decide)⟩
   ·skip
    refine XS.ifNo X497.here hx rfl (hb hby at_257) rfl ((if0 _ _).trans (teq ((lw_eq _ _).mpr hc257_506)).2) ?_
    refine XS.iconst X497.here hx rfl (hb hby at_260) ?_
    refine XS.goto X497.here hx rfl (pc0 := 261) (pc' := 265) rfl (hb hby at_261) (by decide) (by decide) ?_
    exact retN X497 hx (t := .boolean) Bd.returns (by simp) (hb hby at_265) hr
   ·show Q0 Z p0 p1 p2 p3 eN eA eC ps crr ads sw oe efd rfd eyr ryr bt bf ic ksw h0 n0 _ T497.heap _
    rw [eh497]
    exact ⟨rfl, N497⟩
  ·skip
   have G507 : ∀ t, Steps p.tables e below (T497.setTop (mkF m 231 #[iv p0, iv p1, iv p2, iv p3, iv 2, rv eC, .val (.long ll), .second, .val (.long la), .second, .val (.long ld), .second, rv bo313, rv bs322, rv b332, rv bl370, rv bd389, rv bd411, iv (own_lt (ld.toInt) (ll.toInt + 1)), .val (.long qt497), .second, iv 1, .unset, .unset] [(.int (1 : Int32))])) t → Steps p.tables e below (s₁.setTop (entryFrame m #[(.int p0), (.int p1), (.int p2), (.int p3)] maxLocals)) t := by
    intro t kt
    refine G500 _ ?_
    refine XS.ifNo X497.here hx rfl (hb hby at_219) rfl ((if0 _ _).trans (flt (fun q => hc219_501 ((lw_gt _ _).mp q))).2.2.1) ?_
    refine XS.iconst X497.here hx rfl (hb hby at_222) ?_
    refine XS.goto X497.here hx rfl (pc0 := 223) (pc' := 227) rfl (hb hby at_223) (by decide) (by decide) ?_
    refine XS.istore X497.here hx rfl (hb hby at_227) rfl (l' := #[iv p0, iv p1, iv p2, iv p3, iv 2, rv eC, .val (.long ll), .second, .val (.long la), .second, .val (.long ld), .second, rv bo313, rv bs322, rv b332, rv bl370, rv bd389, rv bd411, iv (own_lt (ld.toInt) (ll.toInt + 1)), .val (.long qt497), .second, iv 1, .unset, .unset]) rfl ?_
    refine XS.iload X497.here hx rfl (hb hby at_229) rfl ?_
    exact kt
   have G508 : ∀ t, Steps p.tables e below (T497.setTop (mkF m 249 #[iv p0, iv p1, iv p2, iv p3, iv 2, rv eC, .val (.long ll), .second, .val (.long la), .second, .val (.long ld), .second, rv bo313, rv bs322, rv b332, rv bl370, rv bd389, rv bd411, iv (own_lt (ld.toInt) (ll.toInt + 1)), .val (.long qt497), .second, iv 1, .val (.long (ll + (1 : Int64))), .second] [(.int (1 : Int32)), (.int (own_lt (ld.toInt) (ll.toInt + 1)))])) t → Steps p.tables e below (s₁.setTop (entryFrame m #[(.int p0), (.int p1), (.int p2), (.int p3)] maxLocals)) t := by
    intro t kt
    refine G507 _ ?_
    refine XS.ifNo X497.here hx rfl (hb hby at_231) rfl ((if0 _ _).trans (feq (by decide)).1) ?_
    refine XS.lload X497.here hx rfl (hb hby at_234) rfl ?_
    refine XS.lconst X497.here hx rfl (hb hby at_236) ?_
    refine XS.ladd X497.here hx rfl (hb hby at_237) rfl ?_
    show Steps p.tables e below (T497.setTop (mkF m 238 #[iv p0, iv p1, iv p2, iv p3, iv 2, rv eC, .val (.long ll), .second, .val (.long la), .second, .val (.long ld), .second, rv bo313, rv bs322, rv b332, rv bl370, rv bd389, rv bd411, iv (own_lt (ld.toInt) (ll.toInt + 1)), .val (.long qt497), .second, iv 1, .unset, .unset] [(.long (ll + (1 : Int64)))])) _
    refine XS.goto X497.here hx rfl (pc0 := 238) (pc' := 243) rfl (hb hby at_238) (by decide) (by decide) ?_
    refine XS.lstore X497.here hx rfl (hb hby at_243) rfl (l' := #[iv p0, iv p1, iv p2, iv p3, iv 2, rv eC, .val (.long ll), .second, .val (.long la), .second, .val (.long ld), .second, rv bo313, rv bs322, rv b332, rv bl370, rv bd389, rv bd411, iv (own_lt (ld.toInt) (ll.toInt + 1)), .val (.long qt497), .second, iv 1, .val (.long (ll + (1 : Int64))), .second]) rfl ?_
    refine XS.iload X497.here hx rfl (hb hby at_245) rfl ?_
    refine XS.iload X497.here hx rfl (hb hby at_247) rfl ?_
    exact kt
   have hc249_509 : (own_lt (ld.toInt) (ll.toInt + 1)) = (1 : Int32) := by rw [own_lt, if_pos (by have q : ¬ ll.toInt < ld.toInt := fun g => hc219_501 (Int64.lt_iff_toInt_lt.mpr g); omega)]
   have G510 : ∀ t, Steps p.tables e below (T497.setTop (mkF m 257 #[iv p0, iv p1, iv p2, iv p3, iv 2, rv eC, .val (.long ll), .second, .val (.long la), .second, .val (.long ld), .second, rv bo313, rv bs322, rv b332, rv bl370, rv bd389, rv bd411, iv (own_lt (ld.toInt) (ll.toInt + 1)), .val (.long qt497), .second, iv 1, .val (.long (ll + (1 : Int64))), .second] [(.int (lcmpW qt497 (ll + (1 : Int64))))])) t → Steps p.tables e below (s₁.setTop (entryFrame m #[(.int p0), (.int p1), (.int p2), (.int p3)] maxLocals)) t := by
    intro t kt
    refine G508 _ ?_
    refine XS.icmpNo X497.here hx rfl (hb hby at_249) rfl (teq hc249_509).2 ?_
    refine XS.lload X497.here hx rfl (hb hby at_252) rfl ?_
    refine XS.lload X497.here hx rfl (hb hby at_254) rfl ?_
    refine XS.lcmp X497.here hx rfl (hb hby at_256) rfl ?_
    exact kt
   have hc257_511 : qt497 = (ll + (1 : Int64)) := Int64.toInt_inj.mp (by rw [hqt497, if_pos (by have q : ¬ ll.toInt < ld.toInt := fun g => hc219_501 (Int64.lt_iff_toInt_lt.mpr g); omega)]; have a := c_ladd ll 1; have r := rng64 (ll + 1); rw [l1] at a; omega)
   obtain ⟨fs, hr, hrun, hended, hRW⟩ := X497.leaveW (s := s) hS (by rw [show T497.heap = T467.heap from eh497]; exact hk) (v := some (.int (1 : Int32))) (fun h => by rw [Bd.returns] at h; cases h) (BodyLoose.notSynchronized Bd)
   refine ⟨_, _, G510 _ ?_, hrun, hended, _, _, rfl, ?_, hRW.1, hRW.2.1, hRW.2.2.1, hRW.2.2.2.mono (by decide) (by decide)⟩
   ·skip
    refine XS.ifNo X497.here hx rfl (hb hby at_257) rfl ((if0 _ _).trans (teq ((lw_eq _ _).mpr hc257_511)).2) ?_
    refine XS.iconst X497.here hx rfl (hb hby at_260) ?_
    refine XS.goto X497.here hx rfl (pc0 := 261) (pc' := 265) rfl (hb hby at_261) (by decide) (by decide) ?_
    exact retN X497 hx (t := .boolean) Bd.returns (by simp) (hb hby at_265) hr
   ·show Q0 Z p0 p1 p2 p3 eN eA eC ps crr ads sw oe efd rfd eyr ryr bt bf ic ksw h0 n0 _ T497.heap _
    rw [eh497]
    exact ⟨rfl, N497⟩
theorem own_eqI {args : Array Value} {s : State} {t : Term} {k : Int32} (h : (Jvm.Cond.eq t (Jvm.Term.int k)).value args s none s [] = some true) : t.eval args s none [] s = some (.int k) := by
  simp only [Cond.value, Term.eval] at h
  cases ht : t.eval args s none [] s with
  | none => simp [ht] at h
  | some x => cases x <;> simp [ht] at h ⊢; exact h
theorem own_eqL {args : Array Value} {s : State} {t : Term} {k : Int64} (h : (Jvm.Cond.eq t (Jvm.Term.long k)).value args s none s [] = some true) : t.eval args s none [] s = some (.long k) := by
  simp only [Cond.value, Term.eval] at h
  cases ht : t.eval args s none [] s with
  | none => simp [ht] at h
  | some x => cases x <;> simp [ht] at h ⊢; exact h
theorem own_eqN {args : Array Value} {s : State} {t : Term} (h : (Jvm.Cond.eq t Jvm.Term.null).value args s none s [] = some true) : t.eval args s none [] s = some .null := by
  simp only [Cond.value, Term.eval] at h
  cases ht : t.eval args s none [] s with
  | none => simp [ht] at h
  | some x => cases x <;> simp [ht] at h ⊢
theorem own_len {args : Array Value} {s : State} {t : Term} {x : Addr} {cl : Cell} {k : Int32} (h : (Term.length t).eval args s none [] s = some (.int k)) (ht : t.eval args s none [] s = some (.ref x)) (ha : s.arrayAt? x = some cl) : cl.slots.size < 2 ^ 31 ∧ cl.slots.size.toInt32 = k := by
  by_cases hl : cl.slots.size < 2 ^ 31
  · rw [len_f ht ha hl] at h
    exact ⟨hl, Value.int.inj (Option.some.inj h)⟩
  · exfalso
    simp [Term.eval, ht, ha, hl] at h
set_option maxRecDepth 65536 in
set_option maxHeartbeats 40000000 in
theorem comes_1 {Post : Tables → Env → Array Value → State → Outcome → State → Prop} (hpost : ∀ tb e args s v u, (limb_1_1.after args s (.returned v) u = true ∧ limb_1_2.after args s (.returned v) u = true ∧ True) → ReturnedEndW s (.returned v) u (Jvm.fieldLocs frame_1_writes args s ++ Jvm.arrayLocs frame_1_arrays args s ++ Jvm.staticLocs frame_1_statics s) 56 5312 → Post tb e args s (.returned v) u) :
    ArmFor flags0 classFile x code maxLocals ret World_1 tables_1 room_1 Calls_1 rest_1 Pre_1 Post := by
  intro l hfl _ _ p e ha hc hk s m args below hf hA hF happ hP
  obtain ⟨hcalls, hrest, hpre⟩ := hP
  obtain ⟨-, -, -, hnamed, -, -, -, hat⟩ := (Spec.applies_iff hf).mp happ
  obtain ⟨hg, hn⟩ := and_e (Cond.before_iff.mp (show (Jvm.Cond.and given_1 narrow_1).before args s = true from hpre))
  obtain ⟨g1, g2⟩ := and_e hg
  obtain ⟨g3, g4⟩ := and_e g2
  obtain ⟨g5, g6⟩ := and_e g4
  obtain ⟨g7, g8⟩ := and_e g6
  obtain ⟨w0, w1, w2, w3, rfl⟩ : ∃ w0 w1 w2 w3 : Value, args = #[w0, w1, w2, w3] := by
    have hs : args.size = 4 := by simpa [Cond.value, given_1] using g1
    obtain ⟨L⟩ := args
    match L, hs with
    | [w0, w1, w2, w3], _ => exact ⟨w0, w1, w2, w3, rfl⟩
  have hw := fun d (hd : d ∈ tables_1) => atoms_spec (ws := Jvm.Cond.code x code maxLocals ret :: tables_1) hat d (List.mem_cons_of_mem _ hd)
  have hfit : Fit s := fun {y c} hc i hi => by
    obtain ⟨ha, rfl⟩ := Array.getElem?_eq_some_iff.mp hc
    have q := List.all_eq_true.mp ((Array.all_eq_true_iff_forall_mem.mp hF) _ (Array.getElem_mem ha)) i (List.mem_range.mpr hi)
    simpa [Array.getElem?_eq_getElem hi] using q
  obtain ⟨hsets, hown0⟩ := atoms_of _ (rest_1_c_eq ▸ (show rest_1_c.before _ s = true from hrest))
  have hr0 := Cond.before_iff.mp hown0
  obtain ⟨i0, ei0⟩ := is_v g3
  obtain rfl : w0 = (.int i0) := Option.some.inj ei0
  obtain ⟨i1, ei1⟩ := is_v g5
  obtain rfl : w1 = (.int i1) := Option.some.inj ei1
  obtain ⟨i2, ei2⟩ := is_v g7
  obtain rfl : w2 = (.int i2) := Option.some.inj ei2
  obtain ⟨i3, ei3⟩ := is_v g8
  obtain rfl : w3 = (.int i3) := Option.some.inj ei3
  obtain ⟨m1a, m1b⟩ := and_e hn
  obtain ⟨m2a, m2b⟩ := and_e m1b
  obtain ⟨m3a, m3b⟩ := and_e m2b
  obtain ⟨m4a, m4b⟩ := and_e m3b
  obtain ⟨m5a, m5b⟩ := and_e m4b
  obtain ⟨m6a, m6b⟩ := and_e m5b
  obtain ⟨m7a, m7b⟩ := and_e m6b
  obtain ⟨m8a, m8b⟩ := and_e m7b
  obtain ⟨m9a, m9b⟩ := and_e m8b
  obtain ⟨m10a, m10b⟩ := and_e m9b
  obtain ⟨m11a, m11b⟩ := and_e m10b
  obtain ⟨m12a, m12b⟩ := and_e m11b
  obtain ⟨m13a, m13b⟩ := and_e m12b
  obtain ⟨eN, ev_eN⟩ := exa_v m1a
  have Sa_eN := Sta.start ev_eN (Or.inr ⟨(hq hw 2 rfl), (hq hw 3 rfl)⟩)
  have Ea_eN := Exa.start ev_eN m1a
  obtain ⟨eA, ev_eA⟩ := exa_v m9a
  have Sa_eA := Sta.start ev_eA (Or.inr ⟨(hq hw 2 rfl), (hq hw 246 rfl)⟩)
  have Ea_eA := Exa.start ev_eA m9a
  obtain ⟨eC, ev_eC⟩ := exa_v m12a
  have Sa_eC := Sta.start ev_eC (Or.inr ⟨(hq hw 2 rfl), (hq hw 298 rfl)⟩)
  have Ea_eC := Exa.start ev_eC m12a
  obtain ⟨ps, ev_ps⟩ := exa_v m2a
  have Sa_ps := Sta.start ev_ps (Or.inr ⟨(hq hw 17 rfl), (hq hw 18 rfl)⟩)
  have Ea_ps := Exa.start ev_ps m2a
  obtain ⟨crr, ev_crr⟩ := exa_v m3a
  have Sa_crr := Sta.start ev_crr (Or.inr ⟨(hq hw 20 rfl), (hq hw 21 rfl)⟩)
  have Ea_crr := Exa.start ev_crr m3a
  obtain ⟨ads, ev_ads⟩ := exa_v m4a
  have Sa_ads := Sta.start ev_ads (Or.inr ⟨(hq hw 25 rfl), (hq hw 26 rfl)⟩)
  have Ea_ads := Exa.start ev_ads m4a
  have Fo_eN := Fld.start ((fld_at ev_eN).symm.trans (own_eqI m7a))
  have Fo_eA := Fld.start ((fld_at ev_eA).symm.trans (own_eqI m10a))
  have Fo_eC := Fld.start ((fld_at ev_eC).symm.trans (own_eqI m13a))
  obtain ⟨sw, ev_sw⟩ := arr_v m5a
  obtain ⟨cl, AV⟩ := Arr.start ev_sw m5a
  have Sa_sw := Sta.start ev_sw (Or.inr ⟨(hq hw 176 rfl), (hq hw 177 rfl)⟩)
  obtain ⟨lz1, lz2⟩ := own_len (own_eqI m6a) ev_sw (AV.fin (Vm.Alike.refl _))
  have Hs0 : cl.slots[0]? = some (.int (3 : Int32)) := (elem_in (own_eqI m8a) ev_sw (Term.int_eval _) AV.1).2
  have Hs1 : cl.slots[1]? = some (.int (2 : Int32)) := (elem_in (own_eqI m11a) ev_sw (Term.int_eval _) AV.1).2
  have Hs2 : cl.slots[2]? = some (.int (1 : Int32)) := (elem_in (own_eqI m13b) ev_sw (Term.int_eval _) AV.1).2
  have VV : Arv s s.heap sw cl.cls .int (3 : Int32) [(.int (3 : Int32)), (.int (2 : Int32)), (.int (1 : Int32))] (.int (0 : Int32)) := Arv.start hfit AV lz1 lz2 (by decide) rfl ⟨Hs0, Hs1, Hs2, trivial⟩
  obtain ⟨oe, ev_oe⟩ := exa_v (Cond.before_iff.mp (hsets _ (List.mem_of_getElem? (i := 2) rfl)))
  have Sa_oe := Sta.start ev_oe (Or.inl (hsets _ (List.mem_of_getElem? (i := 1) rfl)))
  have Ea_oe := Exa.start ev_oe (Cond.before_iff.mp (hsets _ (List.mem_of_getElem? (i := 2) rfl)))
  obtain ⟨efd, ev_efd⟩ := exa_v (Cond.before_iff.mp (hsets _ (List.mem_of_getElem? (i := 10) rfl)))
  have Sa_efd := Sta.start ev_efd (Or.inl (hsets _ (List.mem_of_getElem? (i := 5) rfl)))
  have Ea_efd := Exa.start ev_efd (Cond.before_iff.mp (hsets _ (List.mem_of_getElem? (i := 10) rfl)))
  obtain ⟨bf, ev_bf⟩ := exa_v (Cond.before_iff.mp (hsets _ (List.mem_of_getElem? (i := 34) rfl)))
  have Sa_bf := Sta.start ev_bf (Or.inl (hsets _ (List.mem_of_getElem? (i := 33) rfl)))
  have Ea_bf := Exa.start ev_bf (Cond.before_iff.mp (hsets _ (List.mem_of_getElem? (i := 34) rfl)))
  obtain ⟨bt, ev_bt⟩ := exa_v (Cond.before_iff.mp (hsets _ (List.mem_of_getElem? (i := 38) rfl)))
  have Sa_bt := Sta.start ev_bt (Or.inl (hsets _ (List.mem_of_getElem? (i := 37) rfl)))
  have Ea_bt := Exa.start ev_bt (Cond.before_iff.mp (hsets _ (List.mem_of_getElem? (i := 38) rfl)))
  obtain ⟨ic, ev_ic⟩ := exa_v (Cond.before_iff.mp (hsets _ (List.mem_of_getElem? (i := 42) rfl)))
  have Sa_ic := Sta.start ev_ic (Or.inl (hsets _ (List.mem_of_getElem? (i := 41) rfl)))
  have Ea_ic := Exa.start ev_ic (Cond.before_iff.mp (hsets _ (List.mem_of_getElem? (i := 42) rfl)))
  obtain ⟨eyr, ev_eyr⟩ := exa_v (Cond.before_iff.mp (hsets _ (List.mem_of_getElem? (i := 49) rfl)))
  have Sa_eyr := Sta.start ev_eyr (Or.inl (hsets _ (List.mem_of_getElem? (i := 44) rfl)))
  have Ea_eyr := Exa.start ev_eyr (Cond.before_iff.mp (hsets _ (List.mem_of_getElem? (i := 49) rfl)))
  have Fv_oe := Fld.start ((fld_at ev_oe).symm.trans (own_eqN (Cond.before_iff.mp (hsets _ (List.mem_of_getElem? (i := 3) rfl)))))
  have Fv_bf := Fld.start ((fld_at ev_bf).symm.trans (own_eqI (Cond.before_iff.mp (hsets _ (List.mem_of_getElem? (i := 35) rfl)))))
  have Fv_bt := Fld.start ((fld_at ev_bt).symm.trans (own_eqI (Cond.before_iff.mp (hsets _ (List.mem_of_getElem? (i := 39) rfl)))))
  obtain ⟨rfd, ev_rfd⟩ := exa_v (Cond.before_iff.mp (hsets _ (List.mem_of_getElem? (i := 26) rfl)))
  have Ea_rfd := Exa.start ev_rfd (Cond.before_iff.mp (hsets _ (List.mem_of_getElem? (i := 26) rfl)))
  have Fr_efd := Fld.start ((fld_at ev_efd).symm.trans ev_rfd)
  have Fl_rfd := Fld.start ((fld_at ev_rfd).symm.trans (own_eqL (Cond.before_iff.mp (hsets _ (List.mem_of_getElem? (i := 27) rfl)))))
  have Fh_rfd := Fld.start ((fld_at ev_rfd).symm.trans (own_eqL (Cond.before_iff.mp (hsets _ (List.mem_of_getElem? (i := 30) rfl)))))
  obtain ⟨ryr, ev_ryr⟩ := exa_v (Cond.before_iff.mp (hsets _ (List.mem_of_getElem? (i := 65) rfl)))
  have Ea_ryr := Exa.start ev_ryr (Cond.before_iff.mp (hsets _ (List.mem_of_getElem? (i := 65) rfl)))
  have Fr_eyr := Fld.start ((fld_at ev_eyr).symm.trans ev_ryr)
  have Fl_ryr := Fld.start ((fld_at ev_ryr).symm.trans (own_eqL (Cond.before_iff.mp (hsets _ (List.mem_of_getElem? (i := 66) rfl)))))
  have Fh_ryr := Fld.start ((fld_at ev_ryr).symm.trans (own_eqL (Cond.before_iff.mp (hsets _ (List.mem_of_getElem? (i := 69) rfl)))))
  have SS : Stw s eN eA eC ps crr ads sw oe efd rfd eyr ryr bt bf ic cl.cls := ⟨Sa_eN, Sa_eA, Sa_eC, Sa_ps, Sa_crr, Sa_ads, Sa_sw, Sa_oe, Sa_efd, Sa_eyr, Sa_bt, Sa_bf, Sa_ic, Ea_eN, Ea_eA, Ea_eC, Fo_eN, Fo_eA, Fo_eC, VV, Ea_oe, Fv_oe, Ea_efd, Fr_efd, Ea_rfd, Fl_rfd, Fh_rfd, Ea_eyr, Fr_eyr, Ea_ryr, Fl_ryr, Fh_ryr, Ea_bt, Fv_bt, Ea_bf, Fv_bf, Ea_ic⟩
  have O0 := Old.start s
  obtain ⟨n, o, h1, h2, h3, _, L, rfl, ⟨rfl, N⟩, hq⟩ := rm0 l s _ hw tables_1 i0 i1 i2 i3 eN eA eC ps crr ads sw oe efd rfd eyr ryr bt bf ic cl.cls s.heap s.heap.size (Nat.le_refl _) O0 SS p e ha hc hk s m _ below hf ((Spec.applies_iff_loose hf).mp happ).1 ⟨rfl, State.Warmed39.refl s, rfl⟩ trivial
  refine ⟨n, _, h1, h2, h3, hpost _ _ _ _ _ _ ⟨Cond.after_iff.mpr rfl, Cond.after_iff.mpr (eq_i res_at (Term.int_eval (1)) rfl), trivial⟩ ⟨hq.1, hq.2.1, hq.2.2.1, (hq.2.2.2.sift fun y hy => Or.inr (N y hy)).mono (by decide) (by decide)⟩⟩
theorem main_1_1 : Claimed_1_1 := comes_1 fun _ _ _ _ _ _ h hF => ⟨h.1, hF⟩
theorem main_1_2 : Claimed_1_2 := comes_1 fun _ _ _ _ _ _ h hF => ⟨h.2.1, hF⟩
end Jvm.Pilot.@@N@@
namespace Jvm.Pilot.@@N@@
open Jvm Jvm.ClassFile Sem Op Lib Jvm.Free Jvm.Stand Jvm.Pilot.@@N@@.Jvm.D
/-! MADE BY PROGRAM (witnessworld.py) out of the Statement's table words and the real class files: 42 classes; the members and pool entries that the words name. The judged class is class 1, her method 1. -/
namespace start1
open Jvm.ClassFile
def u (s : String) : CpInfo := .utf8 (stringToUtf16 s)
/-- a pool by its gaps: so many unusable entries, then the entry; so many at the end -/
def gap : Nat → List CpInfo → List CpInfo
  | 0, r => r
  | n + 1, r => .unusable :: gap n r
def poolList (es : List (Nat × CpInfo)) (last : Nat) : List CpInfo := es.foldr (fun e r => gap e.1 (e.2 :: r)) (gap last [])
def pool (es : List (Nat × CpInfo)) (last : Nat) : Array CpInfo := ⟨poolList es last⟩
def fileOf (pool : Array CpInfo) (this : Nat) (attrs : Array Attribute := #[]) (ms : Array MethodInfo := #[]) (fl : Nat := 33) (sup : Nat := 0) (ifs : Array Nat := #[]) (fds : Array FieldInfo := #[]) : ClassFile where
  minorVersion := 0
  majorVersion := 65
  constantPool := pool
  accessFlags := fl
  thisClass := this
  superClass := sup
  interfaces := ifs
  fields := fds
  methods := ms
  attributes := attrs
def plain (name : String) (sup : Option ClassId) : Class where
  name := name
  kind := .ordinary
  loader := none
  accessFlags := 33
  super := sup
  interfaces := #[]
  cf := none
  fields := #[]
  methods := #[]
  instanceTypes := #[]
  staticTypes := #[]
  resolved := #[]
  callSites := []
  init := .initialized
  statics := none
  mirror := none

def pool0 : Array CpInfo := pool [(5, u "<init>"), (0, u "()V"), (1, .class_ 10), (1, u "java/lang/Object")] 113

def k0c0 : Code := { maxStack := 0, maxLocals := 1, code := object_method_1_code, exceptionTable := #[], attributes := #[] }
def k0m0 : Method := { name := "<init>", desc := "()V", sig := { parameters := [], returnType := none }, accessFlags := 1, code := some k0c0 }
/-- java/lang/Object -/
def k0 : Class := { plain "java/lang/Object" none with
  accessFlags := 33
  interfaces := #[]
  cf := some (fileOf pool0 8 #[] #[{ accessFlags := 1, nameIndex := 5, descriptorIndex := 6, attributes := #[] }] 33 0 #[] #[])
  fields := #[]
  methods := #[k0m0]
  instanceTypes := #[]
  staticTypes := #[]
  resolved := Array.replicate 124 none
  statics := none }

def pool1 : Array CpInfo := pool [(2, .class_ 4), (1, u "java/lang/Object"), (0, u "<init>"), (0, u "()V"), (0, .integer 2147483647), (0, .fieldref 9 10), (0, .class_ 11), (0, .nameAndType 12 13), (0, u "com/example/ratabl/ratabl/model/LockDateMethod"), (0, u "NONE"), (0, u "Lcom/example/ratabl/ratabl/model/LockDateMethod;"), (0, .fieldref 9 15), (0, .nameAndType 16 13), (0, u "ACCOUNTING_DATE"), (0, .fieldref 9 18), (0, .nameAndType 19 13), (0, u "CUSTOM"), (0, .integer 2932896), (0, .methodref 22 23), (0, .class_ 24), (0, .nameAndType 25 26), (0, u "java/time/LocalDate"), (0, u "ofEpochDay"), (0, u "(J)Ljava/time/LocalDate;"), (0, .methodref 28 29), (0, .class_ 30), (0, .nameAndType 31 32), (0, u "java/util/Optional"), (0, u "of"), (0, u "(Ljava/lang/Object;)Ljava/util/Optional;"), (0, .methodref 28 34), (0, .nameAndType 35 36), (0, u "empty"), (0, u "()Ljava/util/Optional;"), (0, .methodref 38 39), (0, .class_ 40), (0, .nameAndType 41 42), (0, u "com/example/ratabl/ratabl/model/Settings"), (0, u "defaults"), (0, u "()Lcom/example/ratabl/ratabl/model/Settings;"), (0, .methodref 38 44), (0, .nameAndType 45 46), (0, u "allocationPartialProrationStrategy"), (0, u "()Lcom/example/ratabl/ratabl/model/ProrationStrategy;"), (0, .methodref 38 48), (0, .nameAndType 49 50), (0, u "creditNoteRevenueImpact"), (0, u "()Lcom/example/ratabl/ratabl/model/CreditNoteRevenueImpact;"), (0, .methodref 38 52), (0, .nameAndType 5 53), (0, u "(Lcom/example/ratabl/ratabl/model/ProrationStrategy;Lcom/example/ratabl/ratabl/model/CreditNoteRevenueImpact;Lcom/example/ratabl/ratabl/model/LockDateMethod;Ljava/util/Optional;)V"), (0, .methodref 55 56), (0, .class_ 57), (0, .nameAndType 31 58), (0, u "com/example/ratabl/ratabl/engine/Lock"), (0, u "(Lcom/example/ratabl/ratabl/model/Settings;)Lcom/example/ratabl/ratabl/engine/Lock;"), (0, .methodref 55 60), (0, .nameAndType 61 62), (0, u "closes"), (0, u "(Ljava/time/LocalDate;Ljava/time/LocalDate;)Z"), (0, .methodref 55 64), (0, .nameAndType 65 66), (0, u "postsOn"), (0, u "(Ljava/time/LocalDate;Ljava/time/LocalDate;)Ljava/time/LocalDate;"), (0, .methodref 22 68), (0, .nameAndType 69 70), (0, u "toEpochDay"), (0, u "()J"), (0, .class_ 72), (0, u "com/example/ratabl/ratabl/engine/LockOfPinLaw"), (2, u "law"), (0, u "(IIII)Z")] 3

def k1m0 : Method := { name := "<init>", desc := "()V", sig := { parameters := [], returnType := none }, accessFlags := 1, code := none }
def k1c1 : Code := { maxStack := 6, maxLocals := 24, code := code, exceptionTable := #[], attributes := #[] }
def k1m1 : Method := { name := "law", desc := "(IIII)Z", sig := { parameters := [.int, .int, .int, .int], returnType := some .boolean }, accessFlags := 9, code := some k1c1 }
/-- com/example/ratabl/ratabl/engine/LockOfPinLaw -/
def k1 : Class := { plain "com/example/ratabl/ratabl/engine/LockOfPinLaw" (some 0) with
  accessFlags := 49
  interfaces := #[]
  cf := some (fileOf pool1 71 #[] #[{ accessFlags := 1, nameIndex := 5, descriptorIndex := 6, attributes := #[] }, { accessFlags := 9, nameIndex := 75, descriptorIndex := 76, attributes := #[] }] 49 2 #[] #[])
  fields := #[]
  methods := #[k1m0, k1m1]
  instanceTypes := #[]
  staticTypes := #[]
  resolved := Array.replicate 80 none
  statics := none }

def pool2 : Array CpInfo := pool [(1, .class_ 2), (0, u "java/lang/constant/Constable"), (0, .class_ 4), (0, u "java/lang/Object")] 6

/-- java/lang/constant/Constable -/
def k2 : Class := { plain "java/lang/constant/Constable" (some 0) with
  accessFlags := 1537
  interfaces := #[]
  cf := some (fileOf pool2 1 #[] #[] 1537 3 #[] #[])
  fields := #[]
  methods := #[]
  instanceTypes := #[]
  staticTypes := #[]
  resolved := Array.replicate 11 none
  statics := none }

def pool3 : Array CpInfo := pool [(1, .class_ 2), (0, u "java/lang/Comparable"), (0, .class_ 4), (0, u "java/lang/Object")] 7

/-- java/lang/Comparable -/
def k3 : Class := { plain "java/lang/Comparable" (some 0) with
  accessFlags := 1537
  interfaces := #[]
  cf := some (fileOf pool3 1 #[] #[] 1537 3 #[] #[])
  fields := #[]
  methods := #[]
  instanceTypes := #[]
  staticTypes := #[]
  resolved := Array.replicate 12 none
  statics := none }

def pool4 : Array CpInfo := pool [(1, .class_ 2), (0, u "java/io/Serializable"), (0, .class_ 4), (0, u "java/lang/Object")] 2

/-- java/io/Serializable -/
def k4 : Class := { plain "java/io/Serializable" (some 0) with
  accessFlags := 1537
  interfaces := #[]
  cf := some (fileOf pool4 1 #[] #[] 1537 3 #[] #[])
  fields := #[]
  methods := #[]
  instanceTypes := #[]
  staticTypes := #[]
  resolved := Array.replicate 7 none
  statics := none }

def pool5 : Array CpInfo := pool [(2, .class_ 4), (1, u "java/lang/Enum"), (0, u "name"), (0, u "Ljava/lang/String;"), (0, .fieldref 2 8), (0, .nameAndType 9 10), (0, u "ordinal"), (0, u "I"), (1, .class_ 14), (1, u "java/lang/Object"), (4, u "hash"), (86, .class_ 108), (1, u "java/lang/Enum$EnumDesc"), (2, .class_ 112), (0, u "java/lang/constant/Constable"), (0, .class_ 114), (0, u "java/lang/Comparable"), (0, .class_ 116), (0, u "java/io/Serializable"), (9, u "()I")] 77

def k5c0 : Code := { maxStack := 1, maxLocals := 1, code := jdk_37_method_2_code, exceptionTable := #[], attributes := #[] }
def k5m0 : Method := { name := "ordinal", desc := "()I", sig := { parameters := [], returnType := some .int }, accessFlags := 17, code := some k5c0 }
/-- java/lang/Enum -/
def k5 : Class := { plain "java/lang/Enum" (some 0) with
  accessFlags := 1057
  interfaces := #[2, 3, 4]
  cf := some (fileOf pool5 2 #[.nestMembers #[106]] #[{ accessFlags := 17, nameIndex := 9, descriptorIndex := 126, attributes := #[] }] 1057 12 #[111, 113, 115] #[{ accessFlags := 18, nameIndex := 5, descriptorIndex := 6, attributes := #[] }, { accessFlags := 18, nameIndex := 9, descriptorIndex := 10, attributes := #[] }, { accessFlags := 2, nameIndex := 19, descriptorIndex := 10, attributes := #[] }])
  fields := #[{ name := "name", type := (.object "java/lang/String"), accessFlags := 18, slot := 0, constantValue := 0 }, { name := "ordinal", type := .int, accessFlags := 18, slot := 1, constantValue := 0 }, { name := "hash", type := .int, accessFlags := 2, slot := 2, constantValue := 0 }]
  methods := #[k5m0]
  instanceTypes := #[(.object "java/lang/String"), .int, .int]
  staticTypes := #[]
  resolved := Array.replicate 204 none
  statics := none }

def pool6 : Array CpInfo := pool [(1, .class_ 2), (0, u "com/example/ratabl/ratabl/model/LockDateMethod"), (2, u "NONE"), (0, u "Lcom/example/ratabl/ratabl/model/LockDateMethod;"), (2, u "ACCOUNTING_DATE"), (2, u "CUSTOM"), (2, u "$VALUES"), (0, u "[Lcom/example/ratabl/ratabl/model/LockDateMethod;"), (6, .class_ 25), (1, u "java/lang/Enum")] 25

/-- com/example/ratabl/ratabl/model/LockDateMethod -/
def k6 : Class := { plain "com/example/ratabl/ratabl/model/LockDateMethod" (some 5) with
  accessFlags := 16433
  interfaces := #[]
  cf := some (fileOf pool6 1 #[] #[] 16433 23 #[] #[{ accessFlags := 16409, nameIndex := 5, descriptorIndex := 6, attributes := #[] }, { accessFlags := 16409, nameIndex := 9, descriptorIndex := 6, attributes := #[] }, { accessFlags := 16409, nameIndex := 12, descriptorIndex := 6, attributes := #[] }, { accessFlags := 4122, nameIndex := 15, descriptorIndex := 16, attributes := #[] }])
  fields := #[{ name := "NONE", type := (.object "com/example/ratabl/ratabl/model/LockDateMethod"), accessFlags := 16409, slot := 0, constantValue := 0 }, { name := "ACCOUNTING_DATE", type := (.object "com/example/ratabl/ratabl/model/LockDateMethod"), accessFlags := 16409, slot := 1, constantValue := 0 }, { name := "CUSTOM", type := (.object "com/example/ratabl/ratabl/model/LockDateMethod"), accessFlags := 16409, slot := 2, constantValue := 0 }, { name := "$VALUES", type := (.array (.object "com/example/ratabl/ratabl/model/LockDateMethod")), accessFlags := 4122, slot := 3, constantValue := 0 }]
  methods := #[]
  instanceTypes := #[(.object "java/lang/String"), .int, .int]
  staticTypes := #[(.object "com/example/ratabl/ratabl/model/LockDateMethod"), (.object "com/example/ratabl/ratabl/model/LockDateMethod"), (.object "com/example/ratabl/ratabl/model/LockDateMethod"), (.array (.object "com/example/ratabl/ratabl/model/LockDateMethod"))]
  resolved := Array.replicate 51 none
  statics := some 0 }

def pool7 : Array CpInfo := pool [(1, .fieldref 2 3), (0, .class_ 4), (0, .nameAndType 5 6), (0, u "java/util/Optional"), (0, u "EMPTY"), (0, u "Ljava/util/Optional;"), (0, .methodref 8 9), (0, .class_ 10), (0, .nameAndType 11 12), (0, u "java/lang/Object"), (0, u "<init>"), (0, u "()V"), (0, .fieldref 2 14), (0, .nameAndType 15 16), (0, u "value"), (0, u "Ljava/lang/Object;"), (0, .methodref 18 19), (0, .class_ 20), (0, .nameAndType 21 22), (0, u "java/util/Objects"), (0, u "requireNonNull"), (0, u "(Ljava/lang/Object;)Ljava/lang/Object;"), (0, .methodref 2 24), (0, .nameAndType 11 25), (0, u "(Ljava/lang/Object;)V"), (17, .methodref 2 44), (0, .nameAndType 45 46), (0, u "isEmpty"), (0, u "()Z"), (6, .methodref 2 54), (0, .nameAndType 55 56), (0, u "empty"), (0, u "()Ljava/util/Optional;"), (0, .interfaceMethodref 58 59), (0, .class_ 60), (0, .nameAndType 61 22), (0, u "java/util/function/Function"), (0, u "apply"), (0, .methodref 2 63), (0, .nameAndType 64 65), (0, u "ofNullable"), (0, u "(Ljava/lang/Object;)Ljava/util/Optional;"), (8, u "()Ljava/lang/Object;"), (7, u "of"), (63, u "map"), (0, u "(Ljava/util/function/Function;)Ljava/util/Optional;"), (17, u "orElse"), (6, u "orElseThrow")] 14

def k7c0 : Code := { maxStack := 1, maxLocals := 1, code := jdk_32_method_1_code, exceptionTable := #[], attributes := #[] }
def k7m0 : Method := { name := "empty", desc := "()Ljava/util/Optional;", sig := { parameters := [], returnType := some (.object "java/util/Optional") }, accessFlags := 9, code := some k7c0 }
def k7c1 : Code := { maxStack := 2, maxLocals := 2, code := jdk_32_method_2_code, exceptionTable := #[], attributes := #[] }
def k7m1 : Method := { name := "<init>", desc := "(Ljava/lang/Object;)V", sig := { parameters := [(.object "java/lang/Object")], returnType := none }, accessFlags := 2, code := some k7c1 }
def k7c2 : Code := { maxStack := 3, maxLocals := 1, code := jdk_32_method_3_code, exceptionTable := #[], attributes := #[] }
def k7m2 : Method := { name := "of", desc := "(Ljava/lang/Object;)Ljava/util/Optional;", sig := { parameters := [(.object "java/lang/Object")], returnType := some (.object "java/util/Optional") }, accessFlags := 9, code := some k7c2 }
def k7c3 : Code := { maxStack := 3, maxLocals := 1, code := jdk_32_method_4_code, exceptionTable := #[], attributes := #[] }
def k7m3 : Method := { name := "ofNullable", desc := "(Ljava/lang/Object;)Ljava/util/Optional;", sig := { parameters := [(.object "java/lang/Object")], returnType := some (.object "java/util/Optional") }, accessFlags := 9, code := some k7c3 }
def k7c4 : Code := { maxStack := 1, maxLocals := 1, code := jdk_32_method_7_code, exceptionTable := #[], attributes := #[] }
def k7m4 : Method := { name := "isEmpty", desc := "()Z", sig := { parameters := [], returnType := some .boolean }, accessFlags := 1, code := some k7c4 }
def k7c5 : Code := { maxStack := 2, maxLocals := 2, code := jdk_32_method_11_code, exceptionTable := #[], attributes := #[] }
def k7m5 : Method := { name := "map", desc := "(Ljava/util/function/Function;)Ljava/util/Optional;", sig := { parameters := [(.object "java/util/function/Function")], returnType := some (.object "java/util/Optional") }, accessFlags := 1, code := some k7c5 }
def k7c6 : Code := { maxStack := 1, maxLocals := 2, code := jdk_32_method_15_code, exceptionTable := #[], attributes := #[] }
def k7m6 : Method := { name := "orElse", desc := "(Ljava/lang/Object;)Ljava/lang/Object;", sig := { parameters := [(.object "java/lang/Object")], returnType := some (.object "java/lang/Object") }, accessFlags := 1, code := some k7c6 }
def k7c7 : Code := { maxStack := 3, maxLocals := 1, code := jdk_32_method_17_code, exceptionTable := #[], attributes := #[] }
def k7m7 : Method := { name := "orElseThrow", desc := "()Ljava/lang/Object;", sig := { parameters := [], returnType := some (.object "java/lang/Object") }, accessFlags := 1, code := some k7c7 }
/-- java/util/Optional -/
def k7 : Class := { plain "java/util/Optional" (some 0) with
  accessFlags := 49
  interfaces := #[]
  cf := some (fileOf pool7 2 #[] #[{ accessFlags := 9, nameIndex := 55, descriptorIndex := 56, attributes := #[] }, { accessFlags := 2, nameIndex := 11, descriptorIndex := 25, attributes := #[] }, { accessFlags := 9, nameIndex := 82, descriptorIndex := 65, attributes := #[] }, { accessFlags := 9, nameIndex := 64, descriptorIndex := 65, attributes := #[] }, { accessFlags := 1, nameIndex := 45, descriptorIndex := 46, attributes := #[] }, { accessFlags := 1, nameIndex := 146, descriptorIndex := 147, attributes := #[] }, { accessFlags := 1, nameIndex := 165, descriptorIndex := 22, attributes := #[] }, { accessFlags := 1, nameIndex := 172, descriptorIndex := 74, attributes := #[] }] 49 8 #[] #[{ accessFlags := 26, nameIndex := 5, descriptorIndex := 6, attributes := #[] }, { accessFlags := 18, nameIndex := 15, descriptorIndex := 16, attributes := #[] }])
  fields := #[{ name := "EMPTY", type := (.object "java/util/Optional"), accessFlags := 26, slot := 0, constantValue := 0 }, { name := "value", type := (.object "java/lang/Object"), accessFlags := 18, slot := 0, constantValue := 0 }]
  methods := #[k7m0, k7m1, k7m2, k7m3, k7m4, k7m5, k7m6, k7m7]
  instanceTypes := #[(.object "java/lang/Object")]
  staticTypes := #[(.object "java/util/Optional")]
  resolved := Array.replicate 187 none
  statics := some 1 }

def pool8 : Array CpInfo := pool [(1, .methodref 2 3), (0, .class_ 4), (0, .nameAndType 5 6), (0, u "java/lang/Object"), (0, u "<init>"), (0, u "()V"), (0, .class_ 8), (0, u "java/lang/Record")] 13

def k8c0 : Code := { maxStack := 1, maxLocals := 1, code := jdk_30_method_1_code, exceptionTable := #[], attributes := #[] }
def k8m0 : Method := { name := "<init>", desc := "()V", sig := { parameters := [], returnType := none }, accessFlags := 4, code := some k8c0 }
/-- java/lang/Record -/
def k8 : Class := { plain "java/lang/Record" (some 0) with
  accessFlags := 1057
  interfaces := #[]
  cf := some (fileOf pool8 7 #[] #[{ accessFlags := 4, nameIndex := 5, descriptorIndex := 6, attributes := #[] }] 1057 2 #[] #[])
  fields := #[]
  methods := #[k8m0]
  instanceTypes := #[]
  staticTypes := #[]
  resolved := Array.replicate 22 none
  statics := none }

def pool9 : Array CpInfo := pool [(1, .methodref 2 3), (0, .class_ 4), (0, .nameAndType 5 6), (0, u "java/lang/Record"), (0, u "<init>"), (0, u "()V"), (0, .string 8), (0, u "allocationPartialProrationStrategy"), (0, .methodref 10 11), (0, .class_ 12), (0, .nameAndType 13 14), (0, u "java/util/Objects"), (0, u "requireNonNull"), (0, u "(Ljava/lang/Object;Ljava/lang/String;)Ljava/lang/Object;"), (0, .string 16), (0, u "creditNoteRevenueImpact"), (0, .string 18), (0, u "lockDateMethod"), (0, .string 20), (0, u "customLockDate"), (0, .string 22), (0, u "accountingDateSource"), (0, .fieldref 24 25), (0, .class_ 26), (0, .nameAndType 8 27), (0, u "com/example/ratabl/ratabl/model/Settings"), (0, u "Lcom/example/ratabl/ratabl/model/ProrationStrategy;"), (0, .fieldref 24 29), (0, .nameAndType 16 30), (0, u "Lcom/example/ratabl/ratabl/model/CreditNoteRevenueImpact;"), (0, .fieldref 24 32), (0, .nameAndType 18 33), (0, u "Lcom/example/ratabl/ratabl/model/LockDateMethod;"), (0, .fieldref 24 35), (0, .nameAndType 20 36), (0, u "Ljava/util/Optional;"), (0, .fieldref 24 38), (0, .nameAndType 22 39), (0, u "Lcom/example/ratabl/ratabl/model/AccountingDateSource;"), (0, .fieldref 41 42), (0, .class_ 43), (0, .nameAndType 44 39), (0, u "com/example/ratabl/ratabl/model/AccountingDateSource"), (0, u "ACCOUNTING_DATE"), (0, .methodref 24 46), (0, .nameAndType 5 47), (0, u "(Lcom/example/ratabl/ratabl/model/ProrationStrategy;Lcom/example/ratabl/ratabl/model/CreditNoteRevenueImpact;Lcom/example/ratabl/ratabl/model/LockDateMethod;Ljava/util/Optional;Lcom/example/ratabl/ratabl/model/AccountingDateSource;)V"), (0, .fieldref 49 50), (0, .class_ 51), (0, .nameAndType 52 27), (0, u "com/example/ratabl/ratabl/model/ProrationStrategy"), (0, u "PRORATE_DAILY"), (0, .fieldref 54 55), (0, .class_ 56), (0, .nameAndType 57 30), (0, u "com/example/ratabl/ratabl/model/CreditNoteRevenueImpact"), (0, u "CANCELLATION"), (0, .fieldref 59 60), (0, .class_ 61), (0, .nameAndType 62 33), (0, u "com/example/ratabl/ratabl/model/LockDateMethod"), (0, u "NONE"), (0, .methodref 64 65), (0, .class_ 66), (0, .nameAndType 67 68), (0, u "java/util/Optional"), (0, u "empty"), (0, u "()Ljava/util/Optional;"), (18, u "(Lcom/example/ratabl/ratabl/model/ProrationStrategy;Lcom/example/ratabl/ratabl/model/CreditNoteRevenueImpact;Lcom/example/ratabl/ratabl/model/LockDateMethod;Ljava/util/Optional;)V"), (1, u "defaults"), (0, u "()Lcom/example/ratabl/ratabl/model/Settings;"), (3, u "()Lcom/example/ratabl/ratabl/model/ProrationStrategy;"), (0, u "()Lcom/example/ratabl/ratabl/model/CreditNoteRevenueImpact;"), (0, u "()Lcom/example/ratabl/ratabl/model/LockDateMethod;")] 26

def k9c0 : Code := { maxStack := 2, maxLocals := 6, code := prog_100_method_1_code, exceptionTable := #[], attributes := #[] }
def k9m0 : Method := { name := "<init>", desc := "(Lcom/example/ratabl/ratabl/model/ProrationStrategy;Lcom/example/ratabl/ratabl/model/CreditNoteRevenueImpact;Lcom/example/ratabl/ratabl/model/LockDateMethod;Ljava/util/Optional;Lcom/example/ratabl/ratabl/model/AccountingDateSource;)V", sig := { parameters := [(.object "com/example/ratabl/ratabl/model/ProrationStrategy"), (.object "com/example/ratabl/ratabl/model/CreditNoteRevenueImpact"), (.object "com/example/ratabl/ratabl/model/LockDateMethod"), (.object "java/util/Optional"), (.object "com/example/ratabl/ratabl/model/AccountingDateSource")], returnType := none }, accessFlags := 1, code := some k9c0 }
def k9c1 : Code := { maxStack := 6, maxLocals := 5, code := prog_100_method_2_code, exceptionTable := #[], attributes := #[] }
def k9m1 : Method := { name := "<init>", desc := "(Lcom/example/ratabl/ratabl/model/ProrationStrategy;Lcom/example/ratabl/ratabl/model/CreditNoteRevenueImpact;Lcom/example/ratabl/ratabl/model/LockDateMethod;Ljava/util/Optional;)V", sig := { parameters := [(.object "com/example/ratabl/ratabl/model/ProrationStrategy"), (.object "com/example/ratabl/ratabl/model/CreditNoteRevenueImpact"), (.object "com/example/ratabl/ratabl/model/LockDateMethod"), (.object "java/util/Optional")], returnType := none }, accessFlags := 1, code := some k9c1 }
def k9c2 : Code := { maxStack := 7, maxLocals := 0, code := prog_100_method_3_code, exceptionTable := #[], attributes := #[] }
def k9m2 : Method := { name := "defaults", desc := "()Lcom/example/ratabl/ratabl/model/Settings;", sig := { parameters := [], returnType := some (.object "com/example/ratabl/ratabl/model/Settings") }, accessFlags := 9, code := some k9c2 }
def k9c3 : Code := { maxStack := 1, maxLocals := 1, code := prog_100_method_7_code, exceptionTable := #[], attributes := #[] }
def k9m3 : Method := { name := "allocationPartialProrationStrategy", desc := "()Lcom/example/ratabl/ratabl/model/ProrationStrategy;", sig := { parameters := [], returnType := some (.object "com/example/ratabl/ratabl/model/ProrationStrategy") }, accessFlags := 1, code := some k9c3 }
def k9c4 : Code := { maxStack := 1, maxLocals := 1, code := prog_100_method_8_code, exceptionTable := #[], attributes := #[] }
def k9m4 : Method := { name := "creditNoteRevenueImpact", desc := "()Lcom/example/ratabl/ratabl/model/CreditNoteRevenueImpact;", sig := { parameters := [], returnType := some (.object "com/example/ratabl/ratabl/model/CreditNoteRevenueImpact") }, accessFlags := 1, code := some k9c4 }
def k9c5 : Code := { maxStack := 1, maxLocals := 1, code := prog_100_method_9_code, exceptionTable := #[], attributes := #[] }
def k9m5 : Method := { name := "lockDateMethod", desc := "()Lcom/example/ratabl/ratabl/model/LockDateMethod;", sig := { parameters := [], returnType := some (.object "com/example/ratabl/ratabl/model/LockDateMethod") }, accessFlags := 1, code := some k9c5 }
def k9c6 : Code := { maxStack := 1, maxLocals := 1, code := prog_100_method_10_code, exceptionTable := #[], attributes := #[] }
def k9m6 : Method := { name := "customLockDate", desc := "()Ljava/util/Optional;", sig := { parameters := [], returnType := some (.object "java/util/Optional") }, accessFlags := 1, code := some k9c6 }
/-- com/example/ratabl/ratabl/model/Settings -/
def k9 : Class := { plain "com/example/ratabl/ratabl/model/Settings" (some 8) with
  accessFlags := 49
  interfaces := #[]
  cf := some (fileOf pool9 24 #[] #[{ accessFlags := 1, nameIndex := 5, descriptorIndex := 47, attributes := #[] }, { accessFlags := 1, nameIndex := 5, descriptorIndex := 87, attributes := #[] }, { accessFlags := 9, nameIndex := 89, descriptorIndex := 90, attributes := #[] }, { accessFlags := 1, nameIndex := 8, descriptorIndex := 94, attributes := #[] }, { accessFlags := 1, nameIndex := 16, descriptorIndex := 95, attributes := #[] }, { accessFlags := 1, nameIndex := 18, descriptorIndex := 96, attributes := #[] }, { accessFlags := 1, nameIndex := 20, descriptorIndex := 68, attributes := #[] }] 49 2 #[] #[{ accessFlags := 18, nameIndex := 8, descriptorIndex := 27, attributes := #[] }, { accessFlags := 18, nameIndex := 16, descriptorIndex := 30, attributes := #[] }, { accessFlags := 18, nameIndex := 18, descriptorIndex := 33, attributes := #[] }, { accessFlags := 18, nameIndex := 20, descriptorIndex := 36, attributes := #[] }, { accessFlags := 18, nameIndex := 22, descriptorIndex := 39, attributes := #[] }])
  fields := #[{ name := "allocationPartialProrationStrategy", type := (.object "com/example/ratabl/ratabl/model/ProrationStrategy"), accessFlags := 18, slot := 0, constantValue := 0 }, { name := "creditNoteRevenueImpact", type := (.object "com/example/ratabl/ratabl/model/CreditNoteRevenueImpact"), accessFlags := 18, slot := 1, constantValue := 0 }, { name := "lockDateMethod", type := (.object "com/example/ratabl/ratabl/model/LockDateMethod"), accessFlags := 18, slot := 2, constantValue := 0 }, { name := "customLockDate", type := (.object "java/util/Optional"), accessFlags := 18, slot := 3, constantValue := 0 }, { name := "accountingDateSource", type := (.object "com/example/ratabl/ratabl/model/AccountingDateSource"), accessFlags := 18, slot := 4, constantValue := 0 }]
  methods := #[k9m0, k9m1, k9m2, k9m3, k9m4, k9m5, k9m6]
  instanceTypes := #[(.object "com/example/ratabl/ratabl/model/ProrationStrategy"), (.object "com/example/ratabl/ratabl/model/CreditNoteRevenueImpact"), (.object "com/example/ratabl/ratabl/model/LockDateMethod"), (.object "java/util/Optional"), (.object "com/example/ratabl/ratabl/model/AccountingDateSource")]
  staticTypes := #[]
  resolved := Array.replicate 123 none
  statics := none }

def pool10 : Array CpInfo := pool [(1, .class_ 2), (0, u "com/example/ratabl/ratabl/model/ProrationStrategy"), (2, u "PRORATE_DAILY"), (0, u "Lcom/example/ratabl/ratabl/model/ProrationStrategy;"), (2, u "BALANCE_EVEN_MONTHLY"), (2, u "PRORATE_MONTHLY"), (2, u "$VALUES"), (0, u "[Lcom/example/ratabl/ratabl/model/ProrationStrategy;"), (6, .class_ 25), (1, u "java/lang/Enum")] 25

/-- com/example/ratabl/ratabl/model/ProrationStrategy -/
def k10 : Class := { plain "com/example/ratabl/ratabl/model/ProrationStrategy" (some 5) with
  accessFlags := 16433
  interfaces := #[]
  cf := some (fileOf pool10 1 #[] #[] 16433 23 #[] #[{ accessFlags := 16409, nameIndex := 5, descriptorIndex := 6, attributes := #[] }, { accessFlags := 16409, nameIndex := 9, descriptorIndex := 6, attributes := #[] }, { accessFlags := 16409, nameIndex := 12, descriptorIndex := 6, attributes := #[] }, { accessFlags := 4122, nameIndex := 15, descriptorIndex := 16, attributes := #[] }])
  fields := #[{ name := "PRORATE_DAILY", type := (.object "com/example/ratabl/ratabl/model/ProrationStrategy"), accessFlags := 16409, slot := 0, constantValue := 0 }, { name := "BALANCE_EVEN_MONTHLY", type := (.object "com/example/ratabl/ratabl/model/ProrationStrategy"), accessFlags := 16409, slot := 1, constantValue := 0 }, { name := "PRORATE_MONTHLY", type := (.object "com/example/ratabl/ratabl/model/ProrationStrategy"), accessFlags := 16409, slot := 2, constantValue := 0 }, { name := "$VALUES", type := (.array (.object "com/example/ratabl/ratabl/model/ProrationStrategy")), accessFlags := 4122, slot := 3, constantValue := 0 }]
  methods := #[]
  instanceTypes := #[(.object "java/lang/String"), .int, .int]
  staticTypes := #[(.object "com/example/ratabl/ratabl/model/ProrationStrategy"), (.object "com/example/ratabl/ratabl/model/ProrationStrategy"), (.object "com/example/ratabl/ratabl/model/ProrationStrategy"), (.array (.object "com/example/ratabl/ratabl/model/ProrationStrategy"))]
  resolved := Array.replicate 51 none
  statics := some 2 }

def pool11 : Array CpInfo := pool [(1, .class_ 2), (0, u "com/example/ratabl/ratabl/model/CreditNoteRevenueImpact"), (2, u "CANCELLATION"), (0, u "Lcom/example/ratabl/ratabl/model/CreditNoteRevenueImpact;"), (2, u "ADJUSTMENT"), (2, u "$VALUES"), (0, u "[Lcom/example/ratabl/ratabl/model/CreditNoteRevenueImpact;"), (6, .class_ 22), (1, u "java/lang/Enum")] 24

/-- com/example/ratabl/ratabl/model/CreditNoteRevenueImpact -/
def k11 : Class := { plain "com/example/ratabl/ratabl/model/CreditNoteRevenueImpact" (some 5) with
  accessFlags := 16433
  interfaces := #[]
  cf := some (fileOf pool11 1 #[] #[] 16433 20 #[] #[{ accessFlags := 16409, nameIndex := 5, descriptorIndex := 6, attributes := #[] }, { accessFlags := 16409, nameIndex := 9, descriptorIndex := 6, attributes := #[] }, { accessFlags := 4122, nameIndex := 12, descriptorIndex := 13, attributes := #[] }])
  fields := #[{ name := "CANCELLATION", type := (.object "com/example/ratabl/ratabl/model/CreditNoteRevenueImpact"), accessFlags := 16409, slot := 0, constantValue := 0 }, { name := "ADJUSTMENT", type := (.object "com/example/ratabl/ratabl/model/CreditNoteRevenueImpact"), accessFlags := 16409, slot := 1, constantValue := 0 }, { name := "$VALUES", type := (.array (.object "com/example/ratabl/ratabl/model/CreditNoteRevenueImpact")), accessFlags := 4122, slot := 2, constantValue := 0 }]
  methods := #[]
  instanceTypes := #[(.object "java/lang/String"), .int, .int]
  staticTypes := #[(.object "com/example/ratabl/ratabl/model/CreditNoteRevenueImpact"), (.object "com/example/ratabl/ratabl/model/CreditNoteRevenueImpact"), (.array (.object "com/example/ratabl/ratabl/model/CreditNoteRevenueImpact"))]
  resolved := Array.replicate 47 none
  statics := some 3 }

def pool12 : Array CpInfo := pool [(1, .class_ 2), (0, u "com/example/ratabl/ratabl/model/AccountingDateSource"), (2, u "ACCOUNTING_DATE"), (0, u "Lcom/example/ratabl/ratabl/model/AccountingDateSource;"), (2, u "ISSUE_DATE"), (2, u "BILLING_DATE"), (2, u "BILLING_PERIOD_END"), (2, u "$VALUES"), (0, u "[Lcom/example/ratabl/ratabl/model/AccountingDateSource;"), (6, .class_ 28), (1, u "java/lang/Enum"), (8, u "field"), (0, u "Ljava/lang/String;")] 91

/-- com/example/ratabl/ratabl/model/AccountingDateSource -/
def k12 : Class := { plain "com/example/ratabl/ratabl/model/AccountingDateSource" (some 5) with
  accessFlags := 16433
  interfaces := #[]
  cf := some (fileOf pool12 1 #[] #[] 16433 26 #[] #[{ accessFlags := 16409, nameIndex := 5, descriptorIndex := 6, attributes := #[] }, { accessFlags := 16409, nameIndex := 9, descriptorIndex := 6, attributes := #[] }, { accessFlags := 16409, nameIndex := 12, descriptorIndex := 6, attributes := #[] }, { accessFlags := 16409, nameIndex := 15, descriptorIndex := 6, attributes := #[] }, { accessFlags := 18, nameIndex := 37, descriptorIndex := 38, attributes := #[] }, { accessFlags := 4122, nameIndex := 18, descriptorIndex := 19, attributes := #[] }])
  fields := #[{ name := "ACCOUNTING_DATE", type := (.object "com/example/ratabl/ratabl/model/AccountingDateSource"), accessFlags := 16409, slot := 0, constantValue := 0 }, { name := "ISSUE_DATE", type := (.object "com/example/ratabl/ratabl/model/AccountingDateSource"), accessFlags := 16409, slot := 1, constantValue := 0 }, { name := "BILLING_DATE", type := (.object "com/example/ratabl/ratabl/model/AccountingDateSource"), accessFlags := 16409, slot := 2, constantValue := 0 }, { name := "BILLING_PERIOD_END", type := (.object "com/example/ratabl/ratabl/model/AccountingDateSource"), accessFlags := 16409, slot := 3, constantValue := 0 }, { name := "field", type := (.object "java/lang/String"), accessFlags := 18, slot := 3, constantValue := 0 }, { name := "$VALUES", type := (.array (.object "com/example/ratabl/ratabl/model/AccountingDateSource")), accessFlags := 4122, slot := 4, constantValue := 0 }]
  methods := #[]
  instanceTypes := #[(.object "java/lang/String"), .int, .int, (.object "java/lang/String")]
  staticTypes := #[(.object "com/example/ratabl/ratabl/model/AccountingDateSource"), (.object "com/example/ratabl/ratabl/model/AccountingDateSource"), (.object "com/example/ratabl/ratabl/model/AccountingDateSource"), (.object "com/example/ratabl/ratabl/model/AccountingDateSource"), (.array (.object "com/example/ratabl/ratabl/model/AccountingDateSource"))]
  resolved := Array.replicate 130 none
  statics := some 4 }

def pool13 : Array CpInfo := pool [(2, .class_ 4), (1, u "java/lang/CharSequence"), (42, .class_ 48), (0, u "java/lang/CharSequence$1CodePointIterator"), (10, .class_ 60), (0, u "java/lang/CharSequence$1CharIterator"), (5, .class_ 67), (0, u "java/lang/Object")] 63

/-- java/lang/CharSequence -/
def k13 : Class := { plain "java/lang/CharSequence" (some 0) with
  accessFlags := 1537
  interfaces := #[]
  cf := some (fileOf pool13 2 #[.nestMembers #[47, 59]] #[] 1537 66 #[] #[])
  fields := #[]
  methods := #[]
  instanceTypes := #[]
  staticTypes := #[]
  resolved := Array.replicate 131 none
  statics := none }

def pool14 : Array CpInfo := pool [(1, .class_ 2), (0, u "java/lang/constant/ConstantDesc"), (0, .class_ 4), (0, u "java/lang/Object")] 32

/-- java/lang/constant/ConstantDesc -/
def k14 : Class := { plain "java/lang/constant/ConstantDesc" (some 0) with
  accessFlags := 1537
  interfaces := #[]
  cf := some (fileOf pool14 1 #[] #[] 1537 3 #[] #[])
  fields := #[]
  methods := #[]
  instanceTypes := #[]
  staticTypes := #[]
  resolved := Array.replicate 37 none
  statics := none }

def pool15 : Array CpInfo := pool [(2, .class_ 4), (1, u "java/lang/Object"), (0, u "<init>"), (0, u "()V"), (3, .class_ 12), (1, u "java/lang/String"), (0, u "value"), (0, u "[B"), (2, u "coder"), (0, u "B"), (2, u "hash"), (0, u "I"), (2, u "hashIsZero"), (0, u "Z"), (13, u "COMPACT_STRINGS"), (534, .class_ 576), (0, u "java/lang/CharSequence"), (22, u "CASE_INSENSITIVE_ORDER"), (0, u "Ljava/util/Comparator;"), (500, u "serialPersistentFields"), (0, u "[Ljava/io/ObjectStreamField;"), (0, .class_ 1104), (0, u "java/lang/String$CaseInsensitiveComparator"), (1, .class_ 1107), (0, u "java/io/Serializable"), (0, .class_ 1109), (0, u "java/lang/Comparable"), (0, .class_ 1111), (0, u "java/lang/constant/Constable"), (0, .class_ 1113), (0, u "java/lang/constant/ConstantDesc"), (2, u "serialVersionUID"), (0, u "J"), (3, u "REPL"), (0, u "C"), (2, u "LATIN1"), (1, u "UTF16")] 323

def k15m0 : Method := { name := "<init>", desc := "()V", sig := { parameters := [], returnType := none }, accessFlags := 1, code := none }
/-- java/lang/String -/
def k15 : Class := { plain "java/lang/String" (some 0) with
  accessFlags := 49
  interfaces := #[4, 3, 13, 2, 14]
  cf := some (fileOf pool15 10 #[.nestMembers #[1103]] #[{ accessFlags := 1, nameIndex := 5, descriptorIndex := 6, attributes := #[] }] 49 2 #[1106, 1108, 575, 1110, 1112] #[{ accessFlags := 18, nameIndex := 13, descriptorIndex := 14, attributes := #[] }, { accessFlags := 18, nameIndex := 17, descriptorIndex := 18, attributes := #[] }, { accessFlags := 2, nameIndex := 21, descriptorIndex := 22, attributes := #[] }, { accessFlags := 2, nameIndex := 25, descriptorIndex := 26, attributes := #[] }, { accessFlags := 26, nameIndex := 1116, descriptorIndex := 1117, attributes := #[] }, { accessFlags := 24, nameIndex := 40, descriptorIndex := 26, attributes := #[] }, { accessFlags := 26, nameIndex := 1101, descriptorIndex := 1102, attributes := #[] }, { accessFlags := 26, nameIndex := 1121, descriptorIndex := 1122, attributes := #[] }, { accessFlags := 25, nameIndex := 599, descriptorIndex := 600, attributes := #[] }, { accessFlags := 24, nameIndex := 1125, descriptorIndex := 18, attributes := #[] }, { accessFlags := 24, nameIndex := 1127, descriptorIndex := 18, attributes := #[] }])
  fields := #[{ name := "value", type := (.array .byte), accessFlags := 18, slot := 0, constantValue := 0 }, { name := "coder", type := .byte, accessFlags := 18, slot := 1, constantValue := 0 }, { name := "hash", type := .int, accessFlags := 2, slot := 2, constantValue := 0 }, { name := "hashIsZero", type := .boolean, accessFlags := 2, slot := 3, constantValue := 0 }, { name := "serialVersionUID", type := .long, accessFlags := 26, slot := 0, constantValue := 0 }, { name := "COMPACT_STRINGS", type := .boolean, accessFlags := 24, slot := 1, constantValue := 0 }, { name := "serialPersistentFields", type := (.array (.object "java/io/ObjectStreamField")), accessFlags := 26, slot := 2, constantValue := 0 }, { name := "REPL", type := .char, accessFlags := 26, slot := 3, constantValue := 0 }, { name := "CASE_INSENSITIVE_ORDER", type := (.object "java/util/Comparator"), accessFlags := 25, slot := 4, constantValue := 0 }, { name := "LATIN1", type := .byte, accessFlags := 24, slot := 5, constantValue := 0 }, { name := "UTF16", type := .byte, accessFlags := 24, slot := 6, constantValue := 0 }]
  methods := #[k15m0]
  instanceTypes := #[(.array .byte), .byte, .int, .boolean]
  staticTypes := #[.long, .boolean, (.array (.object "java/io/ObjectStreamField")), .char, (.object "java/util/Comparator"), .byte, .byte]
  resolved := Array.replicate 1451 none
  statics := none }

def pool16 : Array CpInfo := pool [(2, .class_ 4), (1, u "java/lang/Object"), (0, u "<init>"), (0, u "()V"), (35, .class_ 44), (1, u "java/util/Objects"), (0, u "requireNonNull"), (0, u "(Ljava/lang/Object;)Ljava/lang/Object;"), (47, u "(Ljava/lang/Object;Ljava/lang/String;)Ljava/lang/Object;")] 89

def k16m0 : Method := { name := "<init>", desc := "()V", sig := { parameters := [], returnType := none }, accessFlags := 2, code := none }
def k16c1 : Code := { maxStack := 2, maxLocals := 1, code := jdk_31_method_10_code, exceptionTable := #[], attributes := #[] }
def k16m1 : Method := { name := "requireNonNull", desc := "(Ljava/lang/Object;)Ljava/lang/Object;", sig := { parameters := [(.object "java/lang/Object")], returnType := some (.object "java/lang/Object") }, accessFlags := 9, code := some k16c1 }
def k16c2 : Code := { maxStack := 3, maxLocals := 2, code := jdk_31_method_11_code, exceptionTable := #[], attributes := #[] }
def k16m2 : Method := { name := "requireNonNull", desc := "(Ljava/lang/Object;Ljava/lang/String;)Ljava/lang/Object;", sig := { parameters := [(.object "java/lang/Object"), (.object "java/lang/String")], returnType := some (.object "java/lang/Object") }, accessFlags := 9, code := some k16c2 }
/-- java/util/Objects -/
def k16 : Class := { plain "java/util/Objects" (some 0) with
  accessFlags := 49
  interfaces := #[]
  cf := some (fileOf pool16 42 #[] #[{ accessFlags := 2, nameIndex := 5, descriptorIndex := 6, attributes := #[] }, { accessFlags := 9, nameIndex := 45, descriptorIndex := 46, attributes := #[] }, { accessFlags := 9, nameIndex := 45, descriptorIndex := 94, attributes := #[] }] 49 2 #[] #[])
  fields := #[]
  methods := #[k16m0, k16m1, k16m2]
  instanceTypes := #[]
  staticTypes := #[]
  resolved := Array.replicate 184 none
  statics := none }

def pool17 : Array CpInfo := pool [(1, .methodref 2 3), (0, .class_ 4), (0, .nameAndType 5 6), (0, u "java/lang/Object"), (0, u "<init>"), (0, u "()V"), (0, .fieldref 8 9), (0, .class_ 10), (0, .nameAndType 11 12), (0, u "com/example/ratabl/ratabl/engine/Lock"), (0, u "method"), (0, u "Lcom/example/ratabl/ratabl/model/LockDateMethod;"), (0, .fieldref 8 14), (0, .nameAndType 15 16), (0, u "lockDate"), (0, u "Ljava/util/Optional;"), (0, .methodref 18 19), (0, .class_ 20), (0, .nameAndType 21 22), (0, u "com/example/ratabl/ratabl/model/Settings"), (0, u "lockDateMethod"), (0, u "()Lcom/example/ratabl/ratabl/model/LockDateMethod;"), (0, .methodref 18 24), (0, .nameAndType 25 26), (0, u "customLockDate"), (0, u "()Ljava/util/Optional;"), (0, .methodref 8 28), (0, .nameAndType 5 29), (0, u "(Lcom/example/ratabl/ratabl/model/LockDateMethod;Ljava/util/Optional;)V"), (0, .methodref 8 31), (0, .nameAndType 32 33), (0, u "firstOpen"), (0, u "(Ljava/time/LocalDate;)Ljava/util/Optional;"), (1, .class_ 37), (1, u "java/util/Optional"), (1, u "()Z"), (3, u "()Ljava/lang/Object;"), (0, .class_ 45), (0, u "java/time/LocalDate"), (1, .class_ 49), (1, u "com/example/ratabl/ratabl/model/LockDateMethod"), (1, .methodref 35 52), (0, .nameAndType 53 43), (0, u "orElseThrow"), (4, u "valueOf"), (19, .methodref 79 80), (0, .class_ 81), (0, .nameAndType 82 83), (0, u "java/util/Objects"), (0, u "requireNonNull"), (0, u "(Ljava/lang/Object;)Ljava/lang/Object;"), (0, .invokeDynamic 4 85), (0, .nameAndType 86 87), (0, u "apply"), (0, u "(Ljava/time/LocalDate;)Ljava/util/function/Function;"), (0, .methodref 35 89), (0, .nameAndType 90 91), (0, u "map"), (0, u "(Ljava/util/function/Function;)Ljava/util/Optional;"), (0, .methodref 93 94), (0, .class_ 95), (0, .nameAndType 58 96), (0, u "java/lang/Boolean"), (0, u "(Z)Ljava/lang/Boolean;"), (0, .methodref 35 98), (0, .nameAndType 99 83), (0, u "orElse"), (0, .methodref 93 101), (0, .nameAndType 102 39), (0, u "booleanValue"), (0, .methodref 8 104), (0, .nameAndType 105 106), (0, u "closes"), (0, u "(Ljava/time/LocalDate;Ljava/time/LocalDate;)Z"), (0, .fieldref 108 109), (0, .class_ 110), (0, .nameAndType 111 112), (0, u "com/example/ratabl/ratabl/engine/Lock$1"), (0, u "$SwitchMap$com$example$ratabl$ratabl$model$LockDateMethod"), (0, u "[I"), (0, .methodref 47 114), (0, .nameAndType 115 116), (0, u "ordinal"), (0, u "()I"), (5, .methodref 44 123), (0, .nameAndType 124 125), (0, u "plusDays"), (0, u "(J)Ljava/time/LocalDate;"), (0, .methodref 35 127), (0, .nameAndType 128 129), (0, u "of"), (0, u "(Ljava/lang/Object;)Ljava/util/Optional;"), (0, .methodref 35 131), (0, .nameAndType 132 26), (0, u "empty"), (22, u "(Lcom/example/ratabl/ratabl/model/Settings;)Lcom/example/ratabl/ratabl/engine/Lock;"), (3, u "postsOn"), (0, u "(Ljava/time/LocalDate;Ljava/time/LocalDate;)Ljava/time/LocalDate;"), (18, .methodType 83), (0, .methodHandle 5 181), (0, .methodref 44 182), (0, .nameAndType 183 184), (0, u "isBefore"), (0, u "(Ljava/time/chrono/ChronoLocalDate;)Z"), (0, .methodType 186), (0, u "(Ljava/time/LocalDate;)Ljava/lang/Boolean;"), (10, .methodHandle 6 198), (0, .methodref 199 200), (0, .class_ 201), (0, .nameAndType 202 203), (0, u "java/lang/invoke/LambdaMetafactory"), (0, u "metafactory"), (0, u "(Ljava/lang/invoke/MethodHandles$Lookup;Ljava/lang/String;Ljava/lang/invoke/MethodType;Ljava/lang/invoke/MethodType;Ljava/lang/invoke/MethodHandle;Ljava/lang/invoke/MethodType;)Ljava/lang/invoke/CallSite;")] 9

def k17c0 : Code := { maxStack := 2, maxLocals := 3, code := prog_38_method_1_code, exceptionTable := #[], attributes := #[] }
def k17m0 : Method := { name := "<init>", desc := "(Lcom/example/ratabl/ratabl/model/LockDateMethod;Ljava/util/Optional;)V", sig := { parameters := [(.object "com/example/ratabl/ratabl/model/LockDateMethod"), (.object "java/util/Optional")], returnType := none }, accessFlags := 2, code := some k17c0 }
def k17c1 : Code := { maxStack := 4, maxLocals := 1, code := prog_38_method_2_code, exceptionTable := #[], attributes := #[] }
def k17m1 : Method := { name := "of", desc := "(Lcom/example/ratabl/ratabl/model/Settings;)Lcom/example/ratabl/ratabl/engine/Lock;", sig := { parameters := [(.object "com/example/ratabl/ratabl/model/Settings")], returnType := some (.object "com/example/ratabl/ratabl/engine/Lock") }, accessFlags := 8, code := some k17c1 }
def k17c2 : Code := { maxStack := 3, maxLocals := 3, code := prog_38_method_4_code, exceptionTable := #[], attributes := #[] }
def k17m2 : Method := { name := "closes", desc := "(Ljava/time/LocalDate;Ljava/time/LocalDate;)Z", sig := { parameters := [(.object "java/time/LocalDate"), (.object "java/time/LocalDate")], returnType := some .boolean }, accessFlags := 0, code := some k17c2 }
def k17c3 : Code := { maxStack := 3, maxLocals := 3, code := prog_38_method_5_code, exceptionTable := #[], attributes := #[] }
def k17m3 : Method := { name := "postsOn", desc := "(Ljava/time/LocalDate;Ljava/time/LocalDate;)Ljava/time/LocalDate;", sig := { parameters := [(.object "java/time/LocalDate"), (.object "java/time/LocalDate")], returnType := some (.object "java/time/LocalDate") }, accessFlags := 0, code := some k17c3 }
def k17c4 : Code := { maxStack := 4, maxLocals := 2, code := prog_38_method_6_code, exceptionTable := #[], attributes := #[] }
def k17m4 : Method := { name := "firstOpen", desc := "(Ljava/time/LocalDate;)Ljava/util/Optional;", sig := { parameters := [(.object "java/time/LocalDate")], returnType := some (.object "java/util/Optional") }, accessFlags := 2, code := some k17c4 }
/-- com/example/ratabl/ratabl/engine/Lock -/
def k17 : Class := { plain "com/example/ratabl/ratabl/engine/Lock" (some 0) with
  accessFlags := 32
  interfaces := #[]
  cf := some (fileOf pool17 8 #[.nestMembers #[108], .bootstrapMethods #[⟨0, #[]⟩, ⟨0, #[]⟩, ⟨0, #[]⟩, ⟨0, #[]⟩, ⟨197, #[179, 180, 185]⟩, ⟨0, #[]⟩, ⟨0, #[]⟩]] #[{ accessFlags := 2, nameIndex := 5, descriptorIndex := 29, attributes := #[] }, { accessFlags := 8, nameIndex := 128, descriptorIndex := 155, attributes := #[] }, { accessFlags := 0, nameIndex := 105, descriptorIndex := 106, attributes := #[] }, { accessFlags := 0, nameIndex := 159, descriptorIndex := 160, attributes := #[] }, { accessFlags := 2, nameIndex := 32, descriptorIndex := 33, attributes := #[] }] 32 2 #[] #[{ accessFlags := 18, nameIndex := 11, descriptorIndex := 12, attributes := #[] }, { accessFlags := 18, nameIndex := 15, descriptorIndex := 16, attributes := #[] }])
  fields := #[{ name := "method", type := (.object "com/example/ratabl/ratabl/model/LockDateMethod"), accessFlags := 18, slot := 0, constantValue := 0 }, { name := "lockDate", type := (.object "java/util/Optional"), accessFlags := 18, slot := 1, constantValue := 0 }]
  methods := #[k17m0, k17m1, k17m2, k17m3, k17m4]
  instanceTypes := #[(.object "com/example/ratabl/ratabl/model/LockDateMethod"), (.object "java/util/Optional")]
  staticTypes := #[]
  resolved := Array.replicate 213 none
  callSites := [(2, 11, .makes 41)]
  statics := none }

def pool18 : Array CpInfo := pool [(4, .class_ 6), (1, u "java/time/temporal/TemporalAccessor"), (95, .class_ 103), (0, u "java/lang/Object")] 21

/-- java/time/temporal/TemporalAccessor -/
def k18 : Class := { plain "java/time/temporal/TemporalAccessor" (some 0) with
  accessFlags := 1537
  interfaces := #[]
  cf := some (fileOf pool18 4 #[] #[] 1537 102 #[] #[])
  fields := #[]
  methods := #[]
  instanceTypes := #[]
  staticTypes := #[]
  resolved := Array.replicate 125 none
  statics := none }

def pool19 : Array CpInfo := pool [(22, .class_ 24), (1, u "java/time/temporal/Temporal"), (2, .class_ 28), (0, u "java/lang/Object"), (0, .class_ 30), (0, u "java/time/temporal/TemporalAccessor")] 25

/-- java/time/temporal/Temporal -/
def k19 : Class := { plain "java/time/temporal/Temporal" (some 0) with
  accessFlags := 1537
  interfaces := #[18]
  cf := some (fileOf pool19 22 #[] #[] 1537 27 #[29] #[])
  fields := #[]
  methods := #[]
  instanceTypes := #[]
  staticTypes := #[]
  resolved := Array.replicate 56 none
  statics := none }

def pool20 : Array CpInfo := pool [(1, .class_ 2), (0, u "java/time/temporal/TemporalAdjuster"), (0, .class_ 4), (0, u "java/lang/Object")] 6

/-- java/time/temporal/TemporalAdjuster -/
def k20 : Class := { plain "java/time/temporal/TemporalAdjuster" (some 0) with
  accessFlags := 1537
  interfaces := #[]
  cf := some (fileOf pool20 1 #[] #[] 1537 3 #[] #[])
  fields := #[]
  methods := #[]
  instanceTypes := #[]
  staticTypes := #[]
  resolved := Array.replicate 11 none
  statics := none }

def pool21 : Array CpInfo := pool [(9, .class_ 10), (0, u "java/time/chrono/ChronoLocalDate"), (104, .class_ 117), (1, u "java/time/temporal/Temporal"), (134, .class_ 253), (0, u "java/lang/Object"), (23, .class_ 278), (0, u "java/time/temporal/TemporalAdjuster"), (0, .class_ 280), (0, u "java/lang/Comparable")] 86

/-- java/time/chrono/ChronoLocalDate -/
def k21 : Class := { plain "java/time/chrono/ChronoLocalDate" (some 0) with
  accessFlags := 1537
  interfaces := #[19, 20, 3]
  cf := some (fileOf pool21 9 #[] #[] 1537 252 #[115, 277, 279] #[])
  fields := #[]
  methods := #[]
  instanceTypes := #[]
  staticTypes := #[]
  resolved := Array.replicate 367 none
  statics := none }

def pool22 : Array CpInfo := pool [(1, .class_ 2), (0, u "java/time/LocalDate"), (36, .fieldref 40 41), (0, .class_ 42), (0, .nameAndType 43 44), (0, u "java/time/temporal/ChronoField"), (0, u "YEAR"), (0, u "Ljava/time/temporal/ChronoField;"), (0, .methodref 40 46), (0, .nameAndType 47 48), (0, u "checkValidValue"), (0, u "(J)J"), (1, u "month"), (8, u "()I"), (10, .fieldref 71 72), (0, .class_ 73), (0, .nameAndType 74 75), (0, u "java/time/chrono/IsoChronology"), (0, u "INSTANCE"), (0, u "Ljava/time/chrono/IsoChronology;"), (0, .methodref 71 77), (0, .nameAndType 78 79), (0, u "isLeapYear"), (0, u "(J)Z"), (5, .nameAndType 86 87), (0, u "<init>"), (0, u "()V"), (33, .methodref 1 122), (0, .nameAndType 86 123), (0, u "(III)V"), (20, u "()J"), (14, u "ofEpochDay"), (0, u "(J)Ljava/time/LocalDate;"), (0, .fieldref 40 162), (0, .nameAndType 163 44), (0, u "EPOCH_DAY"), (0, .long 719528), (1, .long 60), (1, .long 146097), (1, .long 400), (1, .long 591), (1, .long 365), (1, .long 4), (1, .long 100), (64, .methodref 244 85), (0, .class_ 245), (0, u "java/lang/Object"), (0, .fieldref 1 247), (0, .nameAndType 248 249), (0, u "year"), (0, u "I"), (0, .fieldref 1 251), (0, .nameAndType 50 252), (0, u "S"), (0, .fieldref 1 254), (0, .nameAndType 255 252), (0, u "day"), (1, .class_ 259), (1, u "java/time/chrono/ChronoLocalDate"), (8, u "()Z"), (1, .class_ 272), (1, u "java/time/LocalDate$1"), (5, .methodref 1 279), (0, .nameAndType 280 59), (0, u "lengthOfMonth"), (16, .methodref 1 298), (0, .nameAndType 78 268), (35, u "toEpochDay"), (24, .long 12), (10, .long 3), (9, .class_ 382), (1, u "java/time/temporal/TemporalAdjuster"), (4, u "plusDays"), (95, .long 28), (1, .long 59), (102, u "MAX"), (0, u "Ljava/time/LocalDate;"), (2, u "MIN"), (61, .long 99), (1, .long 399), (1, .long 18446744073709551612), (1, .long 18446744073709551516), (1, .long 18446744073709551216), (1, .long 367), (1, .long 362), (1, .long 2), (10, .methodref 1 680), (0, .nameAndType 681 682), (0, u "compareTo0"), (0, u "(Ljava/time/LocalDate;)I"), (7, u "(Ljava/time/chrono/ChronoLocalDate;)Z"), (2, u "isBefore"), (75, u "EPOCH"), (0, .class_ 771), (0, u "java/time/temporal/Temporal"), (0, .class_ 773), (0, u "java/io/Serializable"), (0, u "serialVersionUID"), (0, u "J"), (3, u "DAYS_PER_CYCLE"), (1, u "DAYS_0000_TO_1970")] 206

def k22c0 : Code := { maxStack := 8, maxLocals := 14, code := jdk_2323_method_8_code, exceptionTable := #[], attributes := #[] }
def k22m0 : Method := { name := "ofEpochDay", desc := "(J)Ljava/time/LocalDate;", sig := { parameters := [.long], returnType := some (.object "java/time/LocalDate") }, accessFlags := 9, code := some k22c0 }
def k22c1 : Code := { maxStack := 2, maxLocals := 4, code := jdk_2323_method_14_code, exceptionTable := #[], attributes := #[] }
def k22m1 : Method := { name := "<init>", desc := "(III)V", sig := { parameters := [.int, .int, .int], returnType := none }, accessFlags := 2, code := some k22c1 }
def k22c2 : Code := { maxStack := 3, maxLocals := 1, code := jdk_2323_method_30_code, exceptionTable := #[], attributes := #[] }
def k22m2 : Method := { name := "isLeapYear", desc := "()Z", sig := { parameters := [], returnType := some .boolean }, accessFlags := 1, code := some k22c2 }
def k22c3 : Code := { maxStack := 1, maxLocals := 1, code := jdk_2323_method_31_code, exceptionTable := #[], attributes := #[] }
def k22m3 : Method := { name := "lengthOfMonth", desc := "()I", sig := { parameters := [], returnType := some .int }, accessFlags := 1, code := some k22c3 }
def k22c4 : Code := { maxStack := 8, maxLocals := 7, code := jdk_2323_method_44_code, exceptionTable := #[], attributes := #[] }
def k22m4 : Method := { name := "plusDays", desc := "(J)Ljava/time/LocalDate;", sig := { parameters := [.long], returnType := some (.object "java/time/LocalDate") }, accessFlags := 1, code := some k22c4 }
def k22c5 : Code := { maxStack := 8, maxLocals := 7, code := jdk_2323_method_67_code, exceptionTable := #[], attributes := #[] }
def k22m5 : Method := { name := "toEpochDay", desc := "()J", sig := { parameters := [], returnType := some .long }, accessFlags := 1, code := some k22c5 }
def k22c6 : Code := { maxStack := 2, maxLocals := 3, code := jdk_2323_method_70_code, exceptionTable := #[], attributes := #[] }
def k22m6 : Method := { name := "compareTo0", desc := "(Ljava/time/LocalDate;)I", sig := { parameters := [(.object "java/time/LocalDate")], returnType := some .int }, accessFlags := 0, code := some k22c6 }
def k22c7 : Code := { maxStack := 2, maxLocals := 2, code := jdk_2323_method_72_code, exceptionTable := #[], attributes := #[] }
def k22m7 : Method := { name := "isBefore", desc := "(Ljava/time/chrono/ChronoLocalDate;)Z", sig := { parameters := [(.object "java/time/chrono/ChronoLocalDate")], returnType := some .boolean }, accessFlags := 1, code := some k22c7 }
/-- java/time/LocalDate -/
def k22 : Class := { plain "java/time/LocalDate" (some 0) with
  accessFlags := 49
  interfaces := #[19, 20, 21, 4]
  cf := some (fileOf pool22 1 #[.nestMembers #[270]] #[{ accessFlags := 9, nameIndex := 159, descriptorIndex := 160, attributes := #[] }, { accessFlags := 2, nameIndex := 86, descriptorIndex := 123, attributes := #[] }, { accessFlags := 1, nameIndex := 78, descriptorIndex := 268, attributes := #[] }, { accessFlags := 1, nameIndex := 280, descriptorIndex := 59, attributes := #[] }, { accessFlags := 1, nameIndex := 387, descriptorIndex := 160, attributes := #[] }, { accessFlags := 1, nameIndex := 334, descriptorIndex := 144, attributes := #[] }, { accessFlags := 0, nameIndex := 681, descriptorIndex := 682, attributes := #[] }, { accessFlags := 1, nameIndex := 693, descriptorIndex := 690, attributes := #[] }] 49 244 #[770, 380, 257, 772] #[{ accessFlags := 25, nameIndex := 592, descriptorIndex := 589, attributes := #[] }, { accessFlags := 25, nameIndex := 588, descriptorIndex := 589, attributes := #[] }, { accessFlags := 25, nameIndex := 769, descriptorIndex := 589, attributes := #[] }, { accessFlags := 26, nameIndex := 774, descriptorIndex := 775, attributes := #[] }, { accessFlags := 26, nameIndex := 779, descriptorIndex := 249, attributes := #[] }, { accessFlags := 24, nameIndex := 781, descriptorIndex := 775, attributes := #[] }, { accessFlags := 18, nameIndex := 248, descriptorIndex := 249, attributes := #[] }, { accessFlags := 18, nameIndex := 50, descriptorIndex := 252, attributes := #[] }, { accessFlags := 18, nameIndex := 255, descriptorIndex := 252, attributes := #[] }])
  fields := #[{ name := "MIN", type := (.object "java/time/LocalDate"), accessFlags := 25, slot := 0, constantValue := 0 }, { name := "MAX", type := (.object "java/time/LocalDate"), accessFlags := 25, slot := 1, constantValue := 0 }, { name := "EPOCH", type := (.object "java/time/LocalDate"), accessFlags := 25, slot := 2, constantValue := 0 }, { name := "serialVersionUID", type := .long, accessFlags := 26, slot := 3, constantValue := 0 }, { name := "DAYS_PER_CYCLE", type := .int, accessFlags := 26, slot := 4, constantValue := 0 }, { name := "DAYS_0000_TO_1970", type := .long, accessFlags := 24, slot := 5, constantValue := 0 }, { name := "year", type := .int, accessFlags := 18, slot := 0, constantValue := 0 }, { name := "month", type := .short, accessFlags := 18, slot := 1, constantValue := 0 }, { name := "day", type := .short, accessFlags := 18, slot := 2, constantValue := 0 }]
  methods := #[k22m0, k22m1, k22m2, k22m3, k22m4, k22m5, k22m6, k22m7]
  instanceTypes := #[.int, .short, .short]
  staticTypes := #[(.object "java/time/LocalDate"), (.object "java/time/LocalDate"), (.object "java/time/LocalDate"), .long, .int, .long]
  resolved := Array.replicate 988 none
  statics := none }

def pool23 : Array CpInfo := pool [(10, .class_ 12), (1, u "java/time/temporal/TemporalField"), (2, .class_ 16), (0, u "java/lang/Object")] 39

/-- java/time/temporal/TemporalField -/
def k23 : Class := { plain "java/time/temporal/TemporalField" (some 0) with
  accessFlags := 1537
  interfaces := #[]
  cf := some (fileOf pool23 10 #[] #[] 1537 15 #[] #[])
  fields := #[]
  methods := #[]
  instanceTypes := #[]
  staticTypes := #[]
  resolved := Array.replicate 56 none
  statics := none }

def pool24 : Array CpInfo := pool [(1, .class_ 2), (0, u "java/time/temporal/ChronoField"), (2, u "NANO_OF_SECOND"), (0, u "Ljava/time/temporal/ChronoField;"), (2, u "NANO_OF_DAY"), (2, u "MICRO_OF_SECOND"), (2, u "MICRO_OF_DAY"), (2, u "MILLI_OF_SECOND"), (2, u "MILLI_OF_DAY"), (2, u "SECOND_OF_MINUTE"), (2, u "SECOND_OF_DAY"), (2, u "MINUTE_OF_HOUR"), (2, u "MINUTE_OF_DAY"), (2, u "HOUR_OF_AMPM"), (2, u "CLOCK_HOUR_OF_AMPM"), (2, u "HOUR_OF_DAY"), (2, u "CLOCK_HOUR_OF_DAY"), (2, u "AMPM_OF_DAY"), (2, u "DAY_OF_WEEK"), (2, u "ALIGNED_DAY_OF_WEEK_IN_MONTH"), (2, u "ALIGNED_DAY_OF_WEEK_IN_YEAR"), (2, u "DAY_OF_MONTH"), (2, u "DAY_OF_YEAR"), (2, u "EPOCH_DAY"), (2, u "ALIGNED_WEEK_OF_MONTH"), (2, u "ALIGNED_WEEK_OF_YEAR"), (2, u "MONTH_OF_YEAR"), (2, u "PROLEPTIC_MONTH"), (2, u "YEAR_OF_ERA"), (2, u "YEAR"), (2, u "ERA"), (2, u "INSTANT_SECONDS"), (2, u "OFFSET_SECONDS"), (2, u "$VALUES"), (0, u "[Ljava/time/temporal/ChronoField;"), (6, .class_ 106), (1, u "java/lang/Enum"), (8, u "name"), (0, u "Ljava/lang/String;"), (2, u "baseUnit"), (0, u "Ljava/time/temporal/TemporalUnit;"), (2, u "rangeUnit"), (0, .fieldref 1 125), (0, .nameAndType 126 127), (0, u "range"), (0, u "Ljava/time/temporal/ValueRange;"), (2, u "displayNameKey"), (59, .methodref 1 191), (0, .nameAndType 126 192), (0, u "()Ljava/time/temporal/ValueRange;"), (0, .methodref 194 195), (0, .class_ 196), (0, .nameAndType 197 198), (0, u "java/time/temporal/ValueRange"), (0, u "checkValidValue"), (0, u "(JLjava/time/temporal/TemporalField;)J"), (256, .class_ 456), (0, u "java/time/temporal/TemporalField"), (27, u "(J)J")] 22

def k24c0 : Code := { maxStack := 1, maxLocals := 1, code := jdk_2395_method_8_code, exceptionTable := #[], attributes := #[] }
def k24m0 : Method := { name := "range", desc := "()Ljava/time/temporal/ValueRange;", sig := { parameters := [], returnType := some (.object "java/time/temporal/ValueRange") }, accessFlags := 1, code := some k24c0 }
def k24c1 : Code := { maxStack := 4, maxLocals := 3, code := jdk_2395_method_11_code, exceptionTable := #[], attributes := #[] }
def k24m1 : Method := { name := "checkValidValue", desc := "(J)J", sig := { parameters := [.long], returnType := some .long }, accessFlags := 1, code := some k24c1 }
/-- java/time/temporal/ChronoField -/
def k24 : Class := { plain "java/time/temporal/ChronoField" (some 5) with
  accessFlags := 16433
  interfaces := #[23]
  cf := some (fileOf pool24 1 #[] #[{ accessFlags := 1, nameIndex := 126, descriptorIndex := 192, attributes := #[] }, { accessFlags := 1, nameIndex := 197, descriptorIndex := 484, attributes := #[] }] 16433 104 #[455] #[{ accessFlags := 16409, nameIndex := 5, descriptorIndex := 6, attributes := #[] }, { accessFlags := 16409, nameIndex := 9, descriptorIndex := 6, attributes := #[] }, { accessFlags := 16409, nameIndex := 12, descriptorIndex := 6, attributes := #[] }, { accessFlags := 16409, nameIndex := 15, descriptorIndex := 6, attributes := #[] }, { accessFlags := 16409, nameIndex := 18, descriptorIndex := 6, attributes := #[] }, { accessFlags := 16409, nameIndex := 21, descriptorIndex := 6, attributes := #[] }, { accessFlags := 16409, nameIndex := 24, descriptorIndex := 6, attributes := #[] }, { accessFlags := 16409, nameIndex := 27, descriptorIndex := 6, attributes := #[] }, { accessFlags := 16409, nameIndex := 30, descriptorIndex := 6, attributes := #[] }, { accessFlags := 16409, nameIndex := 33, descriptorIndex := 6, attributes := #[] }, { accessFlags := 16409, nameIndex := 36, descriptorIndex := 6, attributes := #[] }, { accessFlags := 16409, nameIndex := 39, descriptorIndex := 6, attributes := #[] }, { accessFlags := 16409, nameIndex := 42, descriptorIndex := 6, attributes := #[] }, { accessFlags := 16409, nameIndex := 45, descriptorIndex := 6, attributes := #[] }, { accessFlags := 16409, nameIndex := 48, descriptorIndex := 6, attributes := #[] }, { accessFlags := 16409, nameIndex := 51, descriptorIndex := 6, attributes := #[] }, { accessFlags := 16409, nameIndex := 54, descriptorIndex := 6, attributes := #[] }, { accessFlags := 16409, nameIndex := 57, descriptorIndex := 6, attributes := #[] }, { accessFlags := 16409, nameIndex := 60, descriptorIndex := 6, attributes := #[] }, { accessFlags := 16409, nameIndex := 63, descriptorIndex := 6, attributes := #[] }, { accessFlags := 16409, nameIndex := 66, descriptorIndex := 6, attributes := #[] }, { accessFlags := 16409, nameIndex := 69, descriptorIndex := 6, attributes := #[] }, { accessFlags := 16409, nameIndex := 72, descriptorIndex := 6, attributes := #[] }, { accessFlags := 16409, nameIndex := 75, descriptorIndex := 6, attributes := #[] }, { accessFlags := 16409, nameIndex := 78, descriptorIndex := 6, attributes := #[] }, { accessFlags := 16409, nameIndex := 81, descriptorIndex := 6, attributes := #[] }, { accessFlags := 16409, nameIndex := 84, descriptorIndex := 6, attributes := #[] }, { accessFlags := 16409, nameIndex := 87, descriptorIndex := 6, attributes := #[] }, { accessFlags := 16409, nameIndex := 90, descriptorIndex := 6, attributes := #[] }, { accessFlags := 16409, nameIndex := 93, descriptorIndex := 6, attributes := #[] }, { accessFlags := 18, nameIndex := 115, descriptorIndex := 116, attributes := #[] }, { accessFlags := 18, nameIndex := 119, descriptorIndex := 120, attributes := #[] }, { accessFlags := 18, nameIndex := 123, descriptorIndex := 120, attributes := #[] }, { accessFlags := 18, nameIndex := 126, descriptorIndex := 127, attributes := #[] }, { accessFlags := 18, nameIndex := 130, descriptorIndex := 116, attributes := #[] }, { accessFlags := 4122, nameIndex := 96, descriptorIndex := 97, attributes := #[] }])
  fields := #[{ name := "NANO_OF_SECOND", type := (.object "java/time/temporal/ChronoField"), accessFlags := 16409, slot := 0, constantValue := 0 }, { name := "NANO_OF_DAY", type := (.object "java/time/temporal/ChronoField"), accessFlags := 16409, slot := 1, constantValue := 0 }, { name := "MICRO_OF_SECOND", type := (.object "java/time/temporal/ChronoField"), accessFlags := 16409, slot := 2, constantValue := 0 }, { name := "MICRO_OF_DAY", type := (.object "java/time/temporal/ChronoField"), accessFlags := 16409, slot := 3, constantValue := 0 }, { name := "MILLI_OF_SECOND", type := (.object "java/time/temporal/ChronoField"), accessFlags := 16409, slot := 4, constantValue := 0 }, { name := "MILLI_OF_DAY", type := (.object "java/time/temporal/ChronoField"), accessFlags := 16409, slot := 5, constantValue := 0 }, { name := "SECOND_OF_MINUTE", type := (.object "java/time/temporal/ChronoField"), accessFlags := 16409, slot := 6, constantValue := 0 }, { name := "SECOND_OF_DAY", type := (.object "java/time/temporal/ChronoField"), accessFlags := 16409, slot := 7, constantValue := 0 }, { name := "MINUTE_OF_HOUR", type := (.object "java/time/temporal/ChronoField"), accessFlags := 16409, slot := 8, constantValue := 0 }, { name := "MINUTE_OF_DAY", type := (.object "java/time/temporal/ChronoField"), accessFlags := 16409, slot := 9, constantValue := 0 }, { name := "HOUR_OF_AMPM", type := (.object "java/time/temporal/ChronoField"), accessFlags := 16409, slot := 10, constantValue := 0 }, { name := "CLOCK_HOUR_OF_AMPM", type := (.object "java/time/temporal/ChronoField"), accessFlags := 16409, slot := 11, constantValue := 0 }, { name := "HOUR_OF_DAY", type := (.object "java/time/temporal/ChronoField"), accessFlags := 16409, slot := 12, constantValue := 0 }, { name := "CLOCK_HOUR_OF_DAY", type := (.object "java/time/temporal/ChronoField"), accessFlags := 16409, slot := 13, constantValue := 0 }, { name := "AMPM_OF_DAY", type := (.object "java/time/temporal/ChronoField"), accessFlags := 16409, slot := 14, constantValue := 0 }, { name := "DAY_OF_WEEK", type := (.object "java/time/temporal/ChronoField"), accessFlags := 16409, slot := 15, constantValue := 0 }, { name := "ALIGNED_DAY_OF_WEEK_IN_MONTH", type := (.object "java/time/temporal/ChronoField"), accessFlags := 16409, slot := 16, constantValue := 0 }, { name := "ALIGNED_DAY_OF_WEEK_IN_YEAR", type := (.object "java/time/temporal/ChronoField"), accessFlags := 16409, slot := 17, constantValue := 0 }, { name := "DAY_OF_MONTH", type := (.object "java/time/temporal/ChronoField"), accessFlags := 16409, slot := 18, constantValue := 0 }, { name := "DAY_OF_YEAR", type := (.object "java/time/temporal/ChronoField"), accessFlags := 16409, slot := 19, constantValue := 0 }, { name := "EPOCH_DAY", type := (.object "java/time/temporal/ChronoField"), accessFlags := 16409, slot := 20, constantValue := 0 }, { name := "ALIGNED_WEEK_OF_MONTH", type := (.object "java/time/temporal/ChronoField"), accessFlags := 16409, slot := 21, constantValue := 0 }, { name := "ALIGNED_WEEK_OF_YEAR", type := (.object "java/time/temporal/ChronoField"), accessFlags := 16409, slot := 22, constantValue := 0 }, { name := "MONTH_OF_YEAR", type := (.object "java/time/temporal/ChronoField"), accessFlags := 16409, slot := 23, constantValue := 0 }, { name := "PROLEPTIC_MONTH", type := (.object "java/time/temporal/ChronoField"), accessFlags := 16409, slot := 24, constantValue := 0 }, { name := "YEAR_OF_ERA", type := (.object "java/time/temporal/ChronoField"), accessFlags := 16409, slot := 25, constantValue := 0 }, { name := "YEAR", type := (.object "java/time/temporal/ChronoField"), accessFlags := 16409, slot := 26, constantValue := 0 }, { name := "ERA", type := (.object "java/time/temporal/ChronoField"), accessFlags := 16409, slot := 27, constantValue := 0 }, { name := "INSTANT_SECONDS", type := (.object "java/time/temporal/ChronoField"), accessFlags := 16409, slot := 28, constantValue := 0 }, { name := "OFFSET_SECONDS", type := (.object "java/time/temporal/ChronoField"), accessFlags := 16409, slot := 29, constantValue := 0 }, { name := "name", type := (.object "java/lang/String"), accessFlags := 18, slot := 3, constantValue := 0 }, { name := "baseUnit", type := (.object "java/time/temporal/TemporalUnit"), accessFlags := 18, slot := 4, constantValue := 0 }, { name := "rangeUnit", type := (.object "java/time/temporal/TemporalUnit"), accessFlags := 18, slot := 5, constantValue := 0 }, { name := "range", type := (.object "java/time/temporal/ValueRange"), accessFlags := 18, slot := 6, constantValue := 0 }, { name := "displayNameKey", type := (.object "java/lang/String"), accessFlags := 18, slot := 7, constantValue := 0 }, { name := "$VALUES", type := (.array (.object "java/time/temporal/ChronoField")), accessFlags := 4122, slot := 30, constantValue := 0 }]
  methods := #[k24m0, k24m1]
  instanceTypes := #[(.object "java/lang/String"), .int, .int, (.object "java/lang/String"), (.object "java/time/temporal/TemporalUnit"), (.object "java/time/temporal/TemporalUnit"), (.object "java/time/temporal/ValueRange"), (.object "java/lang/String")]
  staticTypes := #[(.object "java/time/temporal/ChronoField"), (.object "java/time/temporal/ChronoField"), (.object "java/time/temporal/ChronoField"), (.object "java/time/temporal/ChronoField"), (.object "java/time/temporal/ChronoField"), (.object "java/time/temporal/ChronoField"), (.object "java/time/temporal/ChronoField"), (.object "java/time/temporal/ChronoField"), (.object "java/time/temporal/ChronoField"), (.object "java/time/temporal/ChronoField"), (.object "java/time/temporal/ChronoField"), (.object "java/time/temporal/ChronoField"), (.object "java/time/temporal/ChronoField"), (.object "java/time/temporal/ChronoField"), (.object "java/time/temporal/ChronoField"), (.object "java/time/temporal/ChronoField"), (.object "java/time/temporal/ChronoField"), (.object "java/time/temporal/ChronoField"), (.object "java/time/temporal/ChronoField"), (.object "java/time/temporal/ChronoField"), (.object "java/time/temporal/ChronoField"), (.object "java/time/temporal/ChronoField"), (.object "java/time/temporal/ChronoField"), (.object "java/time/temporal/ChronoField"), (.object "java/time/temporal/ChronoField"), (.object "java/time/temporal/ChronoField"), (.object "java/time/temporal/ChronoField"), (.object "java/time/temporal/ChronoField"), (.object "java/time/temporal/ChronoField"), (.object "java/time/temporal/ChronoField"), (.array (.object "java/time/temporal/ChronoField"))]
  resolved := Array.replicate 507 none
  statics := some 5 }

def pool25 : Array CpInfo := pool [(9, .class_ 10), (0, u "java/time/temporal/ValueRange"), (18, .class_ 31), (1, u "java/lang/Object"), (1, .fieldref 9 34), (0, .nameAndType 35 36), (0, u "minSmallest"), (0, u "J"), (2, u "minLargest"), (2, u "maxSmallest"), (0, .fieldref 9 44), (0, .nameAndType 45 36), (0, u "maxLargest"), (0, .methodref 9 47), (0, .nameAndType 48 49), (0, u "getMinimum"), (0, u "()J"), (4, .methodref 9 55), (0, .nameAndType 56 49), (0, u "getMaximum"), (6, .methodref 9 64), (0, .nameAndType 65 66), (0, u "isValidValue"), (0, u "(J)Z"), (54, .class_ 122), (0, u "java/io/Serializable"), (0, u "serialVersionUID"), (17, u "checkValidValue"), (0, u "(JLjava/time/temporal/TemporalField;)J")] 24

def k25c0 : Code := { maxStack := 2, maxLocals := 1, code := jdk_2423_method_6_code, exceptionTable := #[], attributes := #[] }
def k25m0 : Method := { name := "getMinimum", desc := "()J", sig := { parameters := [], returnType := some .long }, accessFlags := 1, code := some k25c0 }
def k25c1 : Code := { maxStack := 2, maxLocals := 1, code := jdk_2423_method_9_code, exceptionTable := #[], attributes := #[] }
def k25m1 : Method := { name := "getMaximum", desc := "()J", sig := { parameters := [], returnType := some .long }, accessFlags := 1, code := some k25c1 }
def k25c2 : Code := { maxStack := 4, maxLocals := 3, code := jdk_2423_method_11_code, exceptionTable := #[], attributes := #[] }
def k25m2 : Method := { name := "isValidValue", desc := "(J)Z", sig := { parameters := [.long], returnType := some .boolean }, accessFlags := 1, code := some k25c2 }
def k25c3 : Code := { maxStack := 6, maxLocals := 4, code := jdk_2423_method_13_code, exceptionTable := #[], attributes := #[] }
def k25m3 : Method := { name := "checkValidValue", desc := "(JLjava/time/temporal/TemporalField;)J", sig := { parameters := [.long, (.object "java/time/temporal/TemporalField")], returnType := some .long }, accessFlags := 1, code := some k25c3 }
/-- java/time/temporal/ValueRange -/
def k25 : Class := { plain "java/time/temporal/ValueRange" (some 0) with
  accessFlags := 49
  interfaces := #[4]
  cf := some (fileOf pool25 9 #[] #[{ accessFlags := 1, nameIndex := 48, descriptorIndex := 49, attributes := #[] }, { accessFlags := 1, nameIndex := 56, descriptorIndex := 49, attributes := #[] }, { accessFlags := 1, nameIndex := 65, descriptorIndex := 66, attributes := #[] }, { accessFlags := 1, nameIndex := 141, descriptorIndex := 142, attributes := #[] }] 49 29 #[121] #[{ accessFlags := 26, nameIndex := 123, descriptorIndex := 36, attributes := #[] }, { accessFlags := 18, nameIndex := 35, descriptorIndex := 36, attributes := #[] }, { accessFlags := 18, nameIndex := 39, descriptorIndex := 36, attributes := #[] }, { accessFlags := 18, nameIndex := 42, descriptorIndex := 36, attributes := #[] }, { accessFlags := 18, nameIndex := 45, descriptorIndex := 36, attributes := #[] }])
  fields := #[{ name := "serialVersionUID", type := .long, accessFlags := 26, slot := 0, constantValue := 0 }, { name := "minSmallest", type := .long, accessFlags := 18, slot := 0, constantValue := 0 }, { name := "minLargest", type := .long, accessFlags := 18, slot := 1, constantValue := 0 }, { name := "maxSmallest", type := .long, accessFlags := 18, slot := 2, constantValue := 0 }, { name := "maxLargest", type := .long, accessFlags := 18, slot := 3, constantValue := 0 }]
  methods := #[k25m0, k25m1, k25m2, k25m3]
  instanceTypes := #[.long, .long, .long, .long]
  staticTypes := #[.long]
  resolved := Array.replicate 167 none
  statics := none }

def pool26 : Array CpInfo := pool [(8, .class_ 10), (1, u "com/example/ratabl/ratabl/engine/Lock$1"), (0, u "$SwitchMap$com$example$ratabl$ratabl$model$LockDateMethod"), (0, u "[I"), (16, .class_ 30), (0, u "java/lang/Object"), (8, .class_ 40), (0, u "com/example/ratabl/ratabl/engine/Lock")] 2

/-- com/example/ratabl/ratabl/engine/Lock$1 -/
def k26 : Class := { plain "com/example/ratabl/ratabl/engine/Lock$1" (some 0) with
  accessFlags := 4128
  interfaces := #[]
  cf := some (fileOf pool26 8 #[.nestHost 39] #[] 4128 29 #[] #[{ accessFlags := 4120, nameIndex := 11, descriptorIndex := 12, attributes := #[] }])
  fields := #[{ name := "$SwitchMap$com$example$ratabl$ratabl$model$LockDateMethod", type := (.array .int), accessFlags := 4120, slot := 0, constantValue := 0 }]
  methods := #[]
  instanceTypes := #[]
  staticTypes := #[(.array .int)]
  resolved := Array.replicate 43 none
  statics := some 6 }

def pool27 : Array CpInfo := pool [(6, u "(Ljava/lang/Object;)Ljava/lang/Object;"), (2, u "apply"), (6, .class_ 18), (1, u "java/util/function/Function"), (0, .class_ 20), (0, u "java/lang/Object")] 56

def k27m0 : Method := { name := "apply", desc := "(Ljava/lang/Object;)Ljava/lang/Object;", sig := { parameters := [(.object "java/lang/Object")], returnType := some (.object "java/lang/Object") }, accessFlags := 1025, code := none }
/-- java/util/function/Function -/
def k27 : Class := { plain "java/util/function/Function" (some 0) with
  accessFlags := 1537
  interfaces := #[]
  cf := some (fileOf pool27 16 #[] #[{ accessFlags := 1025, nameIndex := 9, descriptorIndex := 6, attributes := #[] }] 1537 19 #[] #[])
  fields := #[]
  methods := #[k27m0]
  instanceTypes := #[]
  staticTypes := #[]
  resolved := Array.replicate 77 none
  statics := none }

def pool28 : Array CpInfo := pool [(2, .class_ 4), (1, u "java/lang/Object"), (2, .fieldref 8 9), (0, .class_ 10), (0, .nameAndType 11 12), (0, u "java/lang/Boolean"), (0, u "value"), (0, u "Z"), (14, .fieldref 8 28), (0, .nameAndType 29 30), (0, u "TRUE"), (0, u "Ljava/lang/Boolean;"), (0, .fieldref 8 32), (0, .nameAndType 33 30), (0, u "FALSE"), (2, u "valueOf"), (7, u "booleanValue"), (0, u "()Z"), (41, u "TYPE"), (0, u "Ljava/lang/Class;"), (0, .class_ 90), (0, u "java/io/Serializable"), (0, .class_ 92), (0, u "java/lang/Comparable"), (0, .class_ 94), (0, u "java/lang/constant/Constable"), (2, u "serialVersionUID"), (0, u "J"), (18, u "(Z)Ljava/lang/Boolean;")] 34

def k28c0 : Code := { maxStack := 1, maxLocals := 1, code := jdk_2055_method_4_code, exceptionTable := #[], attributes := #[] }
def k28m0 : Method := { name := "booleanValue", desc := "()Z", sig := { parameters := [], returnType := some .boolean }, accessFlags := 1, code := some k28c0 }
def k28c1 : Code := { maxStack := 1, maxLocals := 1, code := jdk_2055_method_5_code, exceptionTable := #[], attributes := #[] }
def k28m1 : Method := { name := "valueOf", desc := "(Z)Ljava/lang/Boolean;", sig := { parameters := [.boolean], returnType := some (.object "java/lang/Boolean") }, accessFlags := 9, code := some k28c1 }
/-- java/lang/Boolean -/
def k28 : Class := { plain "java/lang/Boolean" (some 0) with
  accessFlags := 49
  interfaces := #[4, 3, 2]
  cf := some (fileOf pool28 8 #[] #[{ accessFlags := 1, nameIndex := 44, descriptorIndex := 45, attributes := #[] }, { accessFlags := 9, nameIndex := 36, descriptorIndex := 117, attributes := #[] }] 49 2 #[89, 91, 93] #[{ accessFlags := 25, nameIndex := 29, descriptorIndex := 30, attributes := #[] }, { accessFlags := 25, nameIndex := 33, descriptorIndex := 30, attributes := #[] }, { accessFlags := 25, nameIndex := 87, descriptorIndex := 88, attributes := #[] }, { accessFlags := 18, nameIndex := 11, descriptorIndex := 12, attributes := #[] }, { accessFlags := 26, nameIndex := 97, descriptorIndex := 98, attributes := #[] }])
  fields := #[{ name := "TRUE", type := (.object "java/lang/Boolean"), accessFlags := 25, slot := 0, constantValue := 0 }, { name := "FALSE", type := (.object "java/lang/Boolean"), accessFlags := 25, slot := 1, constantValue := 0 }, { name := "TYPE", type := (.object "java/lang/Class"), accessFlags := 25, slot := 2, constantValue := 0 }, { name := "value", type := .boolean, accessFlags := 18, slot := 0, constantValue := 0 }, { name := "serialVersionUID", type := .long, accessFlags := 26, slot := 3, constantValue := 0 }]
  methods := #[k28m0, k28m1]
  instanceTypes := #[.boolean]
  staticTypes := #[(.object "java/lang/Boolean"), (.object "java/lang/Boolean"), (.object "java/lang/Class"), .long]
  resolved := Array.replicate 152 none
  statics := some 7 }

def pool29 : Array CpInfo := pool [(21, .class_ 22), (0, u "java/time/chrono/Chronology"), (138, .class_ 162), (0, u "java/time/chrono/Chronology$1"), (74, .class_ 238), (0, u "java/lang/Object"), (0, .class_ 240), (0, u "java/lang/Comparable")] 86

/-- java/time/chrono/Chronology -/
def k29 : Class := { plain "java/time/chrono/Chronology" (some 0) with
  accessFlags := 1537
  interfaces := #[3]
  cf := some (fileOf pool29 21 #[.nestMembers #[161]] #[] 1537 237 #[239] #[])
  fields := #[]
  methods := #[]
  instanceTypes := #[]
  staticTypes := #[]
  resolved := Array.replicate 327 none
  statics := none }

def pool30 : Array CpInfo := pool [(2, .class_ 4), (1, u "java/time/chrono/Chronology"), (3, .class_ 10), (1, u "java/time/chrono/AbstractChronology"), (4, u "CHRONOS_BY_ID"), (0, u "Ljava/util/concurrent/ConcurrentHashMap;"), (11, u "CHRONOS_BY_TYPE"), (69, u "<init>"), (0, u "()V"), (71, .class_ 172), (0, u "java/lang/Object")] 383

def k30m0 : Method := { name := "<init>", desc := "()V", sig := { parameters := [], returnType := none }, accessFlags := 4, code := none }
/-- java/time/chrono/AbstractChronology -/
def k30 : Class := { plain "java/time/chrono/AbstractChronology" (some 0) with
  accessFlags := 1057
  interfaces := #[29]
  cf := some (fileOf pool30 8 #[] #[{ accessFlags := 4, nameIndex := 98, descriptorIndex := 99, attributes := #[] }] 1057 171 #[2] #[{ accessFlags := 26, nameIndex := 15, descriptorIndex := 16, attributes := #[] }, { accessFlags := 26, nameIndex := 28, descriptorIndex := 16, attributes := #[] }])
  fields := #[{ name := "CHRONOS_BY_ID", type := (.object "java/util/concurrent/ConcurrentHashMap"), accessFlags := 26, slot := 0, constantValue := 0 }, { name := "CHRONOS_BY_TYPE", type := (.object "java/util/concurrent/ConcurrentHashMap"), accessFlags := 26, slot := 1, constantValue := 0 }]
  methods := #[k30m0]
  instanceTypes := #[]
  staticTypes := #[(.object "java/util/concurrent/ConcurrentHashMap"), (.object "java/util/concurrent/ConcurrentHashMap")]
  resolved := Array.replicate 556 none
  statics := none }

def pool31 : Array CpInfo := pool [(2, .class_ 4), (1, u "java/time/chrono/AbstractChronology"), (0, u "<init>"), (0, u "()V"), (5, .class_ 14), (1, u "java/time/chrono/IsoChronology"), (102, .long 3), (5, .long 100), (3, .long 400), (3, u "INSTANCE"), (0, u "Ljava/time/chrono/IsoChronology;"), (2, u "isLeapYear"), (0, u "(J)Z"), (228, .class_ 366), (0, u "java/io/Serializable"), (0, u "serialVersionUID"), (0, u "J"), (3, u "DAYS_0000_TO_1970")] 81

def k31m0 : Method := { name := "<init>", desc := "()V", sig := { parameters := [], returnType := none }, accessFlags := 2, code := none }
def k31c1 : Code := { maxStack := 4, maxLocals := 3, code := jdk_2369_method_18_code, exceptionTable := #[], attributes := #[] }
def k31m1 : Method := { name := "isLeapYear", desc := "(J)Z", sig := { parameters := [.long], returnType := some .boolean }, accessFlags := 1, code := some k31c1 }
/-- java/time/chrono/IsoChronology -/
def k31 : Class := { plain "java/time/chrono/IsoChronology" (some 30) with
  accessFlags := 49
  interfaces := #[4]
  cf := some (fileOf pool31 12 #[] #[{ accessFlags := 2, nameIndex := 5, descriptorIndex := 6, attributes := #[] }, { accessFlags := 1, nameIndex := 135, descriptorIndex := 136, attributes := #[] }] 49 2 #[365] #[{ accessFlags := 25, nameIndex := 131, descriptorIndex := 132, attributes := #[] }, { accessFlags := 26, nameIndex := 367, descriptorIndex := 368, attributes := #[] }, { accessFlags := 26, nameIndex := 372, descriptorIndex := 368, attributes := #[] }])
  fields := #[{ name := "INSTANCE", type := (.object "java/time/chrono/IsoChronology"), accessFlags := 25, slot := 0, constantValue := 0 }, { name := "serialVersionUID", type := .long, accessFlags := 26, slot := 1, constantValue := 0 }, { name := "DAYS_0000_TO_1970", type := .long, accessFlags := 26, slot := 2, constantValue := 0 }]
  methods := #[k31m0, k31m1]
  instanceTypes := #[]
  staticTypes := #[(.object "java/time/chrono/IsoChronology"), .long, .long]
  resolved := Array.replicate 454 none
  statics := some 8 }

def pool32 : Array CpInfo := pool [(4, .class_ 6), (1, u "java/time/temporal/TemporalUnit"), (23, .class_ 31), (0, u "java/lang/Object")] 27

/-- java/time/temporal/TemporalUnit -/
def k32 : Class := { plain "java/time/temporal/TemporalUnit" (some 0) with
  accessFlags := 1537
  interfaces := #[]
  cf := some (fileOf pool32 4 #[] #[] 1537 30 #[] #[])
  fields := #[]
  methods := #[]
  instanceTypes := #[]
  staticTypes := #[]
  resolved := Array.replicate 59 none
  statics := none }

def pool33 : Array CpInfo := pool [(1, .class_ 2), (0, u "java/time/temporal/ChronoUnit"), (2, u "NANOS"), (0, u "Ljava/time/temporal/ChronoUnit;"), (2, u "MICROS"), (2, u "MILLIS"), (2, u "SECONDS"), (2, u "MINUTES"), (2, u "HOURS"), (2, u "HALF_DAYS"), (2, u "DAYS"), (2, u "WEEKS"), (2, u "MONTHS"), (2, u "YEARS"), (2, u "DECADES"), (2, u "CENTURIES"), (2, u "MILLENNIA"), (2, u "ERAS"), (2, u "FOREVER"), (2, u "$VALUES"), (0, u "[Ljava/time/temporal/ChronoUnit;"), (6, .class_ 64), (1, u "java/lang/Enum"), (8, u "name"), (0, u "Ljava/lang/String;"), (2, u "duration"), (0, u "Ljava/time/Duration;"), (117, .class_ 197), (0, u "java/time/temporal/TemporalUnit")] 39

/-- java/time/temporal/ChronoUnit -/
def k33 : Class := { plain "java/time/temporal/ChronoUnit" (some 5) with
  accessFlags := 16433
  interfaces := #[32]
  cf := some (fileOf pool33 1 #[] #[] 16433 62 #[196] #[{ accessFlags := 16409, nameIndex := 5, descriptorIndex := 6, attributes := #[] }, { accessFlags := 16409, nameIndex := 9, descriptorIndex := 6, attributes := #[] }, { accessFlags := 16409, nameIndex := 12, descriptorIndex := 6, attributes := #[] }, { accessFlags := 16409, nameIndex := 15, descriptorIndex := 6, attributes := #[] }, { accessFlags := 16409, nameIndex := 18, descriptorIndex := 6, attributes := #[] }, { accessFlags := 16409, nameIndex := 21, descriptorIndex := 6, attributes := #[] }, { accessFlags := 16409, nameIndex := 24, descriptorIndex := 6, attributes := #[] }, { accessFlags := 16409, nameIndex := 27, descriptorIndex := 6, attributes := #[] }, { accessFlags := 16409, nameIndex := 30, descriptorIndex := 6, attributes := #[] }, { accessFlags := 16409, nameIndex := 33, descriptorIndex := 6, attributes := #[] }, { accessFlags := 16409, nameIndex := 36, descriptorIndex := 6, attributes := #[] }, { accessFlags := 16409, nameIndex := 39, descriptorIndex := 6, attributes := #[] }, { accessFlags := 16409, nameIndex := 42, descriptorIndex := 6, attributes := #[] }, { accessFlags := 16409, nameIndex := 45, descriptorIndex := 6, attributes := #[] }, { accessFlags := 16409, nameIndex := 48, descriptorIndex := 6, attributes := #[] }, { accessFlags := 16409, nameIndex := 51, descriptorIndex := 6, attributes := #[] }, { accessFlags := 18, nameIndex := 73, descriptorIndex := 74, attributes := #[] }, { accessFlags := 18, nameIndex := 77, descriptorIndex := 78, attributes := #[] }, { accessFlags := 4122, nameIndex := 54, descriptorIndex := 55, attributes := #[] }])
  fields := #[{ name := "NANOS", type := (.object "java/time/temporal/ChronoUnit"), accessFlags := 16409, slot := 0, constantValue := 0 }, { name := "MICROS", type := (.object "java/time/temporal/ChronoUnit"), accessFlags := 16409, slot := 1, constantValue := 0 }, { name := "MILLIS", type := (.object "java/time/temporal/ChronoUnit"), accessFlags := 16409, slot := 2, constantValue := 0 }, { name := "SECONDS", type := (.object "java/time/temporal/ChronoUnit"), accessFlags := 16409, slot := 3, constantValue := 0 }, { name := "MINUTES", type := (.object "java/time/temporal/ChronoUnit"), accessFlags := 16409, slot := 4, constantValue := 0 }, { name := "HOURS", type := (.object "java/time/temporal/ChronoUnit"), accessFlags := 16409, slot := 5, constantValue := 0 }, { name := "HALF_DAYS", type := (.object "java/time/temporal/ChronoUnit"), accessFlags := 16409, slot := 6, constantValue := 0 }, { name := "DAYS", type := (.object "java/time/temporal/ChronoUnit"), accessFlags := 16409, slot := 7, constantValue := 0 }, { name := "WEEKS", type := (.object "java/time/temporal/ChronoUnit"), accessFlags := 16409, slot := 8, constantValue := 0 }, { name := "MONTHS", type := (.object "java/time/temporal/ChronoUnit"), accessFlags := 16409, slot := 9, constantValue := 0 }, { name := "YEARS", type := (.object "java/time/temporal/ChronoUnit"), accessFlags := 16409, slot := 10, constantValue := 0 }, { name := "DECADES", type := (.object "java/time/temporal/ChronoUnit"), accessFlags := 16409, slot := 11, constantValue := 0 }, { name := "CENTURIES", type := (.object "java/time/temporal/ChronoUnit"), accessFlags := 16409, slot := 12, constantValue := 0 }, { name := "MILLENNIA", type := (.object "java/time/temporal/ChronoUnit"), accessFlags := 16409, slot := 13, constantValue := 0 }, { name := "ERAS", type := (.object "java/time/temporal/ChronoUnit"), accessFlags := 16409, slot := 14, constantValue := 0 }, { name := "FOREVER", type := (.object "java/time/temporal/ChronoUnit"), accessFlags := 16409, slot := 15, constantValue := 0 }, { name := "name", type := (.object "java/lang/String"), accessFlags := 18, slot := 3, constantValue := 0 }, { name := "duration", type := (.object "java/time/Duration"), accessFlags := 18, slot := 4, constantValue := 0 }, { name := "$VALUES", type := (.array (.object "java/time/temporal/ChronoUnit")), accessFlags := 4122, slot := 16, constantValue := 0 }]
  methods := #[]
  instanceTypes := #[(.object "java/lang/String"), .int, .int, (.object "java/lang/String"), (.object "java/time/Duration")]
  staticTypes := #[(.object "java/time/temporal/ChronoUnit"), (.object "java/time/temporal/ChronoUnit"), (.object "java/time/temporal/ChronoUnit"), (.object "java/time/temporal/ChronoUnit"), (.object "java/time/temporal/ChronoUnit"), (.object "java/time/temporal/ChronoUnit"), (.object "java/time/temporal/ChronoUnit"), (.object "java/time/temporal/ChronoUnit"), (.object "java/time/temporal/ChronoUnit"), (.object "java/time/temporal/ChronoUnit"), (.object "java/time/temporal/ChronoUnit"), (.object "java/time/temporal/ChronoUnit"), (.object "java/time/temporal/ChronoUnit"), (.object "java/time/temporal/ChronoUnit"), (.object "java/time/temporal/ChronoUnit"), (.object "java/time/temporal/ChronoUnit"), (.array (.object "java/time/temporal/ChronoUnit"))]
  resolved := Array.replicate 237 none
  statics := some 9 }

def pool34 : Array CpInfo := pool [(1, .class_ 2), (0, u "java/time/temporal/TemporalAmount"), (0, .class_ 4), (0, u "java/lang/Object")] 11

/-- java/time/temporal/TemporalAmount -/
def k34 : Class := { plain "java/time/temporal/TemporalAmount" (some 0) with
  accessFlags := 1537
  interfaces := #[]
  cf := some (fileOf pool34 1 #[] #[] 1537 3 #[] #[])
  fields := #[]
  methods := #[]
  instanceTypes := #[]
  staticTypes := #[]
  resolved := Array.replicate 16 none
  statics := none }

def pool35 : Array CpInfo := pool [(11, .class_ 13), (1, u "java/time/Duration"), (20, u "ZERO"), (0, u "Ljava/time/Duration;"), (13, .class_ 51), (1, u "java/time/temporal/TemporalAmount"), (27, .class_ 81), (1, u "java/time/Duration$Lazy"), (35, u "seconds"), (101, .class_ 220), (0, u "java/lang/Object"), (2, u "J"), (2, u "nanos"), (0, u "I"), (11, .class_ 241), (1, u "java/time/Duration$DurationUnits"), (27, .class_ 271), (1, u "java/time/Duration$1"), (91, u "BI_NANOS_PER_SECOND"), (0, u "Ljava/math/BigInteger;"), (120, .class_ 486), (0, u "java/lang/Comparable"), (0, .class_ 488), (0, u "java/io/Serializable"), (0, u "serialVersionUID")] 166

/-- java/time/Duration -/
def k35 : Class := { plain "java/time/Duration" (some 0) with
  accessFlags := 49
  interfaces := #[34, 3, 4]
  cf := some (fileOf pool35 11 #[.nestMembers #[269, 239, 79]] #[] 49 219 #[49, 485, 487] #[{ accessFlags := 25, nameIndex := 34, descriptorIndex := 35, attributes := #[] }, { accessFlags := 26, nameIndex := 489, descriptorIndex := 223, attributes := #[] }, { accessFlags := 26, nameIndex := 363, descriptorIndex := 364, attributes := #[] }, { accessFlags := 18, nameIndex := 117, descriptorIndex := 223, attributes := #[] }, { accessFlags := 18, nameIndex := 226, descriptorIndex := 227, attributes := #[] }])
  fields := #[{ name := "ZERO", type := (.object "java/time/Duration"), accessFlags := 25, slot := 0, constantValue := 0 }, { name := "serialVersionUID", type := .long, accessFlags := 26, slot := 1, constantValue := 0 }, { name := "BI_NANOS_PER_SECOND", type := (.object "java/math/BigInteger"), accessFlags := 26, slot := 2, constantValue := 0 }, { name := "seconds", type := .long, accessFlags := 18, slot := 0, constantValue := 0 }, { name := "nanos", type := .int, accessFlags := 18, slot := 1, constantValue := 0 }]
  methods := #[]
  instanceTypes := #[.long, .int]
  staticTypes := #[(.object "java/time/Duration"), .long, (.object "java/math/BigInteger")]
  resolved := Array.replicate 656 none
  statics := none }

def pool36 : Array CpInfo := pool [(1, u "java/lang/Cloneable"), (0, .class_ 1), (0, u "java/lang/Object"), (0, .class_ 3)] 3

/-- java/lang/Cloneable -/
def k36 : Class := { plain "java/lang/Cloneable" (some 0) with
  accessFlags := 1537
  interfaces := #[]
  cf := some (fileOf pool36 2 #[] #[] 1537 4 #[] #[])
  fields := #[]
  methods := #[]
  instanceTypes := #[]
  staticTypes := #[]
  resolved := Array.replicate 8 none
  statics := none }

/-- the primitive byte -/
def k37 : Class := { plain "byte" none with kind := .primitive 'B', accessFlags := 0x411 }
/-- [B -/
def k38 : Class := { plain "[B" (some 0) with kind := .array 37 .byte, interfaces := #[36, 4], accessFlags := 1041 }

/-- the primitive int -/
def k39 : Class := { plain "int" none with kind := .primitive 'I', accessFlags := 0x411 }
/-- [I -/
def k40 : Class := { plain "[I" (some 0) with kind := .array 39 .int, interfaces := #[36, 4], accessFlags := 1041 }

def classes0 : Array Class := #[k0, k1, k2, k3, k4, k5, k6, k7, k8, k9, k10, k11, k12, k13, k14, k15, k16, k17, k18, k19, k20, k21, k22, k23, k24, k25, k26, k27, k28, k29, k30, k31, k32, k33, k34, k35, k36, k37, k38, k39, k40]
/-- the class that the rule has made for the site at 11 of com/example/ratabl/ratabl/engine/Lock.closes -/
def k41 : Class := Jvm.LamKit.madeRec { classes := classes0 } "com/example/ratabl/ratabl/engine/Lock" (Jvm.Lambda.Shape.mk "java/util/function/Function" "apply" (Jvm.ClassFile.MethodDescriptor.mk ([(Jvm.ClassFile.FieldType.object "java/lang/Object")] : List Jvm.ClassFile.FieldType) (Option.some (Jvm.ClassFile.FieldType.object "java/lang/Object"))) ([(Jvm.ClassFile.FieldType.object "java/time/LocalDate")] : List Jvm.ClassFile.FieldType) (5 : Nat) "java/time/LocalDate" "isBefore" (Jvm.ClassFile.MethodDescriptor.mk ([(Jvm.ClassFile.FieldType.object "java/time/chrono/ChronoLocalDate")] : List Jvm.ClassFile.FieldType) (Option.some Jvm.ClassFile.FieldType.boolean)) false (Jvm.ClassFile.MethodDescriptor.mk ([(Jvm.ClassFile.FieldType.object "java/time/LocalDate")] : List Jvm.ClassFile.FieldType) (Option.some (Jvm.ClassFile.FieldType.object "java/lang/Boolean")))) 41

def heap : Heap := #[{ cls := 6, slots := #[.ref 10, .ref 11, .ref 12, .null], vm := .statics 6 },
  { cls := 7, slots := #[.ref 26], vm := .statics 7 },
  { cls := 10, slots := #[.ref 13, .null, .null, .null], vm := .statics 10 },
  { cls := 11, slots := #[.ref 14, .null, .null], vm := .statics 11 },
  { cls := 12, slots := #[.ref 15, .null, .null, .null, .null], vm := .statics 12 },
  { cls := 24, slots := #[.null, .null, .null, .null, .null, .null, .null, .null, .null, .null, .null, .null, .null, .null, .null, .null, .null, .null, .null, .null, .ref 24, .null, .null, .null, .null, .null, .ref 25, .null, .null, .null, .null], vm := .statics 24 },
  { cls := 26, slots := #[.ref 16], vm := .statics 26 },
  { cls := 28, slots := #[.ref 28, .ref 27, .null, .long 0], vm := .statics 28 },
  { cls := 31, slots := #[.ref 29, .long 0, .long 0], vm := .statics 31 },
  { cls := 33, slots := #[.null, .null, .null, .null, .null, .null, .null, .ref 19, .null, .null, .ref 21, .null, .null, .null, .null, .ref 20, .null], vm := .statics 33 },
  { cls := 6, slots := #[.null, .int 0, .int 0], vm := .none },
  { cls := 6, slots := #[.null, .int 1, .int 0], vm := .none },
  { cls := 6, slots := #[.null, .int 2, .int 0], vm := .none },
  { cls := 10, slots := #[.null, .int 0, .int 0], vm := .none },
  { cls := 11, slots := #[.null, .int 0, .int 0], vm := .none },
  { cls := 12, slots := #[.null, .int 0, .int 0, .null], vm := .none },
  { cls := 40, slots := #[.int 3, .int 2, .int 1], vm := .none },
  { cls := 15, slots := #[.null, .int 0, .int 0, .int 0], vm := .none },
  { cls := 35, slots := #[.long 0, .int 0], vm := .none },
  { cls := 33, slots := #[.ref 17, .int 7, .int 0, .ref 17, .ref 18], vm := .none },
  { cls := 33, slots := #[.ref 17, .int 15, .int 0, .ref 17, .ref 18], vm := .none },
  { cls := 33, slots := #[.ref 17, .int 10, .int 0, .ref 17, .ref 18], vm := .none },
  { cls := 25, slots := #[.long (-365243219162), .long (-365243219162), .long 365241780471, .long 365241780471], vm := .none },
  { cls := 25, slots := #[.long (-999999999), .long (-999999999), .long 999999999, .long 999999999], vm := .none },
  { cls := 24, slots := #[.ref 17, .int 20, .int 0, .ref 17, .ref 19, .ref 20, .ref 22, .null], vm := .none },
  { cls := 24, slots := #[.ref 17, .int 26, .int 0, .ref 17, .ref 21, .ref 20, .ref 23, .ref 17], vm := .none },
  { cls := 7, slots := #[.null], vm := .none },
  { cls := 28, slots := #[.int 0], vm := .none },
  { cls := 28, slots := #[.int 1], vm := .none },
  { cls := 31, slots := #[], vm := .none }]
def classes : Array Class := #[k0, k1, k2, k3, k4, k5, k6, k7, k8, k9, k10, k11, k12, k13, k14, k15, k16, k17, k18, k19, k20, k21, k22, k23, k24, k25, k26, k27, k28, k29, k30, k31, k32, k33, k34, k35, k36, k37, k38, k39, k40, k41]
def interned : List (Array UInt16 × Addr) := []
def slotsUsed : Nat := 143
def theMethod : MethodId := ⟨1, 1⟩
def args0 : Array Value := #[.int 5, .int 7, .int 9, .int 3]
def aboutOver (below : List Frame) : State where
  vm := { classes := classes, interned := interned.toArray }
  heap := heap
  slotsUsed := slotsUsed
  threads := #[{ frames := .invoking theMethod args0 :: below }]
def below0 : List Frame := [.native { method := ⟨0, 0⟩, args := #[] }]
def about1 : State := aboutOver below0
def p0 : Program := .bare "" "" ""
def e0 : Env := launch0.env 0 0 0
theorem w_frames : about1.frames = Frame.invoking theMethod args0 :: below0 := rfl
set_option maxRecDepth 65536 in
theorem w_args : argsFit about1.vm theMethod args0 = true := by decide +kernel
set_option maxRecDepth 65536 in
theorem w_heap : heapFits about1 = true := by decide +kernel
set_option maxRecDepth 65536 in
theorem w_runnable : about1.curStatus? = some .runnable := by decide +kernel
set_option maxRecDepth 65536 in
theorem w_alone : about1.alone = true := by decide +kernel
set_option maxRecDepth 65536 in
theorem w_named : about1.methodNamed? x = some theMethod := by decide +kernel
set_option maxRecDepth 65536 in
theorem w_hears : about1.hears theMethod below0 = true := by decide +kernel
set_option maxRecDepth 65536 in
theorem w_ripe : about1.ripe theMethod args0 below0 = true := by decide +kernel
theorem w_running : about1.status = .running := rfl
set_option maxRecDepth 65536 in
theorem w_room : about1.hasRoom e0.platform room_1 = true :=
  launch0.hasRoom_least _ room_1 (by decide +kernel) (by decide +kernel) (by decide +kernel) (by decide +kernel) (by decide +kernel) (by decide +kernel)
theorem allAtoms_all (ts : List Jvm.Cond) (a : Array Jvm.Value) (st : Jvm.State) : (allAtoms ts).before a st = ts.all (fun c => c.before a st) := by
  induction ts with
  | nil => rfl
  | cons c t ih =>
    show (Jvm.Cond.and c (allAtoms t)).before a st = _
    rw [Jvm.Cond.before_and, ih, List.all_cons]
def words1 : List Jvm.Cond := Jvm.Cond.code x code maxLocals ret :: tables_1
/-- a 'code' word, met by the world's own term for the bytes: nothing is compared byte by byte -/
theorem code_word {y : MethodName} {bytes : ByteArray} {mx : Nat} {rt : Option FieldType} {a : Array Value} {s : State} {m : MethodId} {meth : Method} {c : Code} (h1 : s.methodNamed? y = some m) (h2 : s.vm.method? m = some meth) (h3 : meth.code = some c) (h4 : c.code = bytes)
    (h5 : (c.maxLocals == mx && c.exceptionTable.isEmpty && decide (c.maxStack ≤ mostOperands) && decide (meth.sig.returnType = rt) && !meth.locks && decide (parseMethodDescriptor y.desc = some meth.sig)) = true) : (Jvm.Cond.code y bytes mx rt).before a s = true := by
  simp only [Bool.and_eq_true, beq_iff_eq, Bool.not_eq_true', decide_eq_true_eq] at h5
  obtain ⟨⟨⟨⟨⟨g1, g2⟩, g3⟩, g4⟩, g5⟩, g6⟩ := h5
  simp [Cond.before, Cond.holds, Cond.value, h1, h2, h3, h4, g1, g2, g3, g4, g5, g6]
def isCode : Jvm.Cond → Bool
  | .code _ _ _ _ => true
  | _ => false
theorem all_split {L : List Jvm.Cond} {P : Jvm.Cond → Bool} (h1 : L.all (fun c => isCode c || P c) = true) (h2 : ∀ c ∈ L.filter isCode, P c = true) : L.all P = true := by
  refine List.all_eq_true.mpr fun c hc => ?_
  have h := List.all_eq_true.mp h1 c hc
  rcases Bool.eq_false_or_eq_true (isCode c) with hi | hi
  · exact h2 c (List.mem_filter.mpr ⟨hc, hi⟩)
  · simpa [hi] using h
set_option maxRecDepth 65536 in
theorem w_c0 : (Jvm.Cond.code x code maxLocals ret).before args0 about1 = true := code_word (m := ⟨1, 1⟩) (meth := k1m1) (c := k1c1) (by decide +kernel) rfl rfl rfl (by decide +kernel)
set_option maxRecDepth 65536 in
theorem w_c1 : (Jvm.Cond.code ({ cls := "java/util/Optional", name := "empty", desc := "()Ljava/util/Optional;" } : Jvm.MethodName) jdk_32_method_1_code (1 : Nat) (Option.some (Jvm.ClassFile.FieldType.object "java/util/Optional"))).before args0 about1 = true := code_word (m := ⟨7, 0⟩) (meth := k7m0) (c := k7c0) (by decide +kernel) rfl rfl rfl (by decide +kernel)
set_option maxRecDepth 65536 in
theorem w_c2 : (Jvm.Cond.code ({ cls := "com/example/ratabl/ratabl/model/Settings", name := "defaults", desc := "()Lcom/example/ratabl/ratabl/model/Settings;" } : Jvm.MethodName) prog_100_method_3_code (0 : Nat) (Option.some (Jvm.ClassFile.FieldType.object "com/example/ratabl/ratabl/model/Settings"))).before args0 about1 = true := code_word (m := ⟨9, 2⟩) (meth := k9m2) (c := k9c2) (by decide +kernel) rfl rfl rfl (by decide +kernel)
set_option maxRecDepth 65536 in
theorem w_c3 : (Jvm.Cond.code ({ cls := "com/example/ratabl/ratabl/model/Settings", name := "<init>", desc := "(Lcom/example/ratabl/ratabl/model/ProrationStrategy;Lcom/example/ratabl/ratabl/model/CreditNoteRevenueImpact;Lcom/example/ratabl/ratabl/model/LockDateMethod;Ljava/util/Optional;Lcom/example/ratabl/ratabl/model/AccountingDateSource;)V" } : Jvm.MethodName) prog_100_method_1_code (6 : Nat) (Option.none : Option Jvm.ClassFile.FieldType)).before args0 about1 = true := code_word (m := ⟨9, 0⟩) (meth := k9m0) (c := k9c0) (by decide +kernel) rfl rfl rfl (by decide +kernel)
set_option maxRecDepth 65536 in
theorem w_c4 : (Jvm.Cond.code ({ cls := "java/lang/Record", name := "<init>", desc := "()V" } : Jvm.MethodName) jdk_30_method_1_code (1 : Nat) (Option.none : Option Jvm.ClassFile.FieldType)).before args0 about1 = true := code_word (m := ⟨8, 0⟩) (meth := k8m0) (c := k8c0) (by decide +kernel) rfl rfl rfl (by decide +kernel)
set_option maxRecDepth 65536 in
theorem w_c5 : (Jvm.Cond.code ({ cls := "java/lang/Object", name := "<init>", desc := "()V" } : Jvm.MethodName) object_method_1_code (1 : Nat) (Option.none : Option Jvm.ClassFile.FieldType)).before args0 about1 = true := code_word (m := ⟨0, 0⟩) (meth := k0m0) (c := k0c0) (by decide +kernel) rfl rfl rfl (by decide +kernel)
set_option maxRecDepth 65536 in
theorem w_c6 : (Jvm.Cond.code ({ cls := "java/util/Objects", name := "requireNonNull", desc := "(Ljava/lang/Object;Ljava/lang/String;)Ljava/lang/Object;" } : Jvm.MethodName) jdk_31_method_11_code (2 : Nat) (Option.some (Jvm.ClassFile.FieldType.object "java/lang/Object"))).before args0 about1 = true := code_word (m := ⟨16, 2⟩) (meth := k16m2) (c := k16c2) (by decide +kernel) rfl rfl rfl (by decide +kernel)
set_option maxRecDepth 65536 in
theorem w_c7 : (Jvm.Cond.code ({ cls := "com/example/ratabl/ratabl/model/Settings", name := "allocationPartialProrationStrategy", desc := "()Lcom/example/ratabl/ratabl/model/ProrationStrategy;" } : Jvm.MethodName) prog_100_method_7_code (1 : Nat) (Option.some (Jvm.ClassFile.FieldType.object "com/example/ratabl/ratabl/model/ProrationStrategy"))).before args0 about1 = true := code_word (m := ⟨9, 3⟩) (meth := k9m3) (c := k9c3) (by decide +kernel) rfl rfl rfl (by decide +kernel)
set_option maxRecDepth 65536 in
theorem w_c8 : (Jvm.Cond.code ({ cls := "com/example/ratabl/ratabl/model/Settings", name := "creditNoteRevenueImpact", desc := "()Lcom/example/ratabl/ratabl/model/CreditNoteRevenueImpact;" } : Jvm.MethodName) prog_100_method_8_code (1 : Nat) (Option.some (Jvm.ClassFile.FieldType.object "com/example/ratabl/ratabl/model/CreditNoteRevenueImpact"))).before args0 about1 = true := code_word (m := ⟨9, 4⟩) (meth := k9m4) (c := k9c4) (by decide +kernel) rfl rfl rfl (by decide +kernel)
set_option maxRecDepth 65536 in
theorem w_c9 : (Jvm.Cond.code ({ cls := "com/example/ratabl/ratabl/model/Settings", name := "<init>", desc := "(Lcom/example/ratabl/ratabl/model/ProrationStrategy;Lcom/example/ratabl/ratabl/model/CreditNoteRevenueImpact;Lcom/example/ratabl/ratabl/model/LockDateMethod;Ljava/util/Optional;)V" } : Jvm.MethodName) prog_100_method_2_code (5 : Nat) (Option.none : Option Jvm.ClassFile.FieldType)).before args0 about1 = true := code_word (m := ⟨9, 1⟩) (meth := k9m1) (c := k9c1) (by decide +kernel) rfl rfl rfl (by decide +kernel)
set_option maxRecDepth 65536 in
theorem w_c10 : (Jvm.Cond.code ({ cls := "com/example/ratabl/ratabl/engine/Lock", name := "of", desc := "(Lcom/example/ratabl/ratabl/model/Settings;)Lcom/example/ratabl/ratabl/engine/Lock;" } : Jvm.MethodName) prog_38_method_2_code (1 : Nat) (Option.some (Jvm.ClassFile.FieldType.object "com/example/ratabl/ratabl/engine/Lock"))).before args0 about1 = true := code_word (m := ⟨17, 1⟩) (meth := k17m1) (c := k17c1) (by decide +kernel) rfl rfl rfl (by decide +kernel)
set_option maxRecDepth 65536 in
theorem w_c11 : (Jvm.Cond.code ({ cls := "com/example/ratabl/ratabl/model/Settings", name := "lockDateMethod", desc := "()Lcom/example/ratabl/ratabl/model/LockDateMethod;" } : Jvm.MethodName) prog_100_method_9_code (1 : Nat) (Option.some (Jvm.ClassFile.FieldType.object "com/example/ratabl/ratabl/model/LockDateMethod"))).before args0 about1 = true := code_word (m := ⟨9, 5⟩) (meth := k9m5) (c := k9c5) (by decide +kernel) rfl rfl rfl (by decide +kernel)
set_option maxRecDepth 65536 in
theorem w_c12 : (Jvm.Cond.code ({ cls := "com/example/ratabl/ratabl/model/Settings", name := "customLockDate", desc := "()Ljava/util/Optional;" } : Jvm.MethodName) prog_100_method_10_code (1 : Nat) (Option.some (Jvm.ClassFile.FieldType.object "java/util/Optional"))).before args0 about1 = true := code_word (m := ⟨9, 6⟩) (meth := k9m6) (c := k9c6) (by decide +kernel) rfl rfl rfl (by decide +kernel)
set_option maxRecDepth 65536 in
theorem w_c13 : (Jvm.Cond.code ({ cls := "com/example/ratabl/ratabl/engine/Lock", name := "<init>", desc := "(Lcom/example/ratabl/ratabl/model/LockDateMethod;Ljava/util/Optional;)V" } : Jvm.MethodName) prog_38_method_1_code (3 : Nat) (Option.none : Option Jvm.ClassFile.FieldType)).before args0 about1 = true := code_word (m := ⟨17, 0⟩) (meth := k17m0) (c := k17c0) (by decide +kernel) rfl rfl rfl (by decide +kernel)
set_option maxRecDepth 65536 in
theorem w_c14 : (Jvm.Cond.code ({ cls := "java/time/LocalDate", name := "ofEpochDay", desc := "(J)Ljava/time/LocalDate;" } : Jvm.MethodName) jdk_2323_method_8_code (14 : Nat) (Option.some (Jvm.ClassFile.FieldType.object "java/time/LocalDate"))).before args0 about1 = true := code_word (m := ⟨22, 0⟩) (meth := k22m0) (c := k22c0) (by decide +kernel) rfl rfl rfl (by decide +kernel)
set_option maxRecDepth 65536 in
theorem w_c15 : (Jvm.Cond.code ({ cls := "java/time/temporal/ChronoField", name := "checkValidValue", desc := "(J)J" } : Jvm.MethodName) jdk_2395_method_11_code (3 : Nat) (Option.some Jvm.ClassFile.FieldType.long)).before args0 about1 = true := code_word (m := ⟨24, 1⟩) (meth := k24m1) (c := k24c1) (by decide +kernel) rfl rfl rfl (by decide +kernel)
set_option maxRecDepth 65536 in
theorem w_c16 : (Jvm.Cond.code ({ cls := "java/time/temporal/ChronoField", name := "range", desc := "()Ljava/time/temporal/ValueRange;" } : Jvm.MethodName) jdk_2395_method_8_code (1 : Nat) (Option.some (Jvm.ClassFile.FieldType.object "java/time/temporal/ValueRange"))).before args0 about1 = true := code_word (m := ⟨24, 0⟩) (meth := k24m0) (c := k24c0) (by decide +kernel) rfl rfl rfl (by decide +kernel)
set_option maxRecDepth 65536 in
theorem w_c17 : (Jvm.Cond.code ({ cls := "java/time/temporal/ValueRange", name := "checkValidValue", desc := "(JLjava/time/temporal/TemporalField;)J" } : Jvm.MethodName) jdk_2423_method_13_code (4 : Nat) (Option.some Jvm.ClassFile.FieldType.long)).before args0 about1 = true := code_word (m := ⟨25, 3⟩) (meth := k25m3) (c := k25c3) (by decide +kernel) rfl rfl rfl (by decide +kernel)
set_option maxRecDepth 65536 in
theorem w_c18 : (Jvm.Cond.code ({ cls := "java/time/temporal/ValueRange", name := "isValidValue", desc := "(J)Z" } : Jvm.MethodName) jdk_2423_method_11_code (3 : Nat) (Option.some Jvm.ClassFile.FieldType.boolean)).before args0 about1 = true := code_word (m := ⟨25, 2⟩) (meth := k25m2) (c := k25c2) (by decide +kernel) rfl rfl rfl (by decide +kernel)
set_option maxRecDepth 65536 in
theorem w_c19 : (Jvm.Cond.code ({ cls := "java/time/temporal/ValueRange", name := "getMinimum", desc := "()J" } : Jvm.MethodName) jdk_2423_method_6_code (1 : Nat) (Option.some Jvm.ClassFile.FieldType.long)).before args0 about1 = true := code_word (m := ⟨25, 0⟩) (meth := k25m0) (c := k25c0) (by decide +kernel) rfl rfl rfl (by decide +kernel)
set_option maxRecDepth 65536 in
theorem w_c20 : (Jvm.Cond.code ({ cls := "java/time/temporal/ValueRange", name := "getMaximum", desc := "()J" } : Jvm.MethodName) jdk_2423_method_9_code (1 : Nat) (Option.some Jvm.ClassFile.FieldType.long)).before args0 about1 = true := code_word (m := ⟨25, 1⟩) (meth := k25m1) (c := k25c1) (by decide +kernel) rfl rfl rfl (by decide +kernel)
set_option maxRecDepth 65536 in
theorem w_c21 : (Jvm.Cond.code ({ cls := "java/time/LocalDate", name := "<init>", desc := "(III)V" } : Jvm.MethodName) jdk_2323_method_14_code (4 : Nat) (Option.none : Option Jvm.ClassFile.FieldType)).before args0 about1 = true := code_word (m := ⟨22, 1⟩) (meth := k22m1) (c := k22c1) (by decide +kernel) rfl rfl rfl (by decide +kernel)
set_option maxRecDepth 65536 in
theorem w_c22 : (Jvm.Cond.code ({ cls := "com/example/ratabl/ratabl/engine/Lock", name := "closes", desc := "(Ljava/time/LocalDate;Ljava/time/LocalDate;)Z" } : Jvm.MethodName) prog_38_method_4_code (3 : Nat) (Option.some Jvm.ClassFile.FieldType.boolean)).before args0 about1 = true := code_word (m := ⟨17, 2⟩) (meth := k17m2) (c := k17c2) (by decide +kernel) rfl rfl rfl (by decide +kernel)
set_option maxRecDepth 65536 in
theorem w_c23 : (Jvm.Cond.code ({ cls := "com/example/ratabl/ratabl/engine/Lock", name := "firstOpen", desc := "(Ljava/time/LocalDate;)Ljava/util/Optional;" } : Jvm.MethodName) prog_38_method_6_code (2 : Nat) (Option.some (Jvm.ClassFile.FieldType.object "java/util/Optional"))).before args0 about1 = true := code_word (m := ⟨17, 4⟩) (meth := k17m4) (c := k17c4) (by decide +kernel) rfl rfl rfl (by decide +kernel)
set_option maxRecDepth 65536 in
theorem w_c24 : (Jvm.Cond.code ({ cls := "java/lang/Enum", name := "ordinal", desc := "()I" } : Jvm.MethodName) jdk_37_method_2_code (1 : Nat) (Option.some Jvm.ClassFile.FieldType.int)).before args0 about1 = true := code_word (m := ⟨5, 0⟩) (meth := k5m0) (c := k5c0) (by decide +kernel) rfl rfl rfl (by decide +kernel)
set_option maxRecDepth 65536 in
theorem w_c25 : (Jvm.Cond.code ({ cls := "java/util/Objects", name := "requireNonNull", desc := "(Ljava/lang/Object;)Ljava/lang/Object;" } : Jvm.MethodName) jdk_31_method_10_code (1 : Nat) (Option.some (Jvm.ClassFile.FieldType.object "java/lang/Object"))).before args0 about1 = true := code_word (m := ⟨16, 1⟩) (meth := k16m1) (c := k16c1) (by decide +kernel) rfl rfl rfl (by decide +kernel)
set_option maxRecDepth 65536 in
theorem w_c26 : (Jvm.Cond.code ({ cls := "java/util/Optional", name := "map", desc := "(Ljava/util/function/Function;)Ljava/util/Optional;" } : Jvm.MethodName) jdk_32_method_11_code (2 : Nat) (Option.some (Jvm.ClassFile.FieldType.object "java/util/Optional"))).before args0 about1 = true := code_word (m := ⟨7, 5⟩) (meth := k7m5) (c := k7c5) (by decide +kernel) rfl rfl rfl (by decide +kernel)
set_option maxRecDepth 65536 in
theorem w_c27 : (Jvm.Cond.code ({ cls := "java/util/Optional", name := "isEmpty", desc := "()Z" } : Jvm.MethodName) jdk_32_method_7_code (1 : Nat) (Option.some Jvm.ClassFile.FieldType.boolean)).before args0 about1 = true := code_word (m := ⟨7, 4⟩) (meth := k7m4) (c := k7c4) (by decide +kernel) rfl rfl rfl (by decide +kernel)
set_option maxRecDepth 65536 in
theorem w_c28 : (Jvm.Cond.code ({ cls := "java/lang/Boolean", name := "valueOf", desc := "(Z)Ljava/lang/Boolean;" } : Jvm.MethodName) jdk_2055_method_5_code (1 : Nat) (Option.some (Jvm.ClassFile.FieldType.object "java/lang/Boolean"))).before args0 about1 = true := code_word (m := ⟨28, 1⟩) (meth := k28m1) (c := k28c1) (by decide +kernel) rfl rfl rfl (by decide +kernel)
set_option maxRecDepth 65536 in
theorem w_c29 : (Jvm.Cond.code ({ cls := "java/util/Optional", name := "orElse", desc := "(Ljava/lang/Object;)Ljava/lang/Object;" } : Jvm.MethodName) jdk_32_method_15_code (2 : Nat) (Option.some (Jvm.ClassFile.FieldType.object "java/lang/Object"))).before args0 about1 = true := code_word (m := ⟨7, 6⟩) (meth := k7m6) (c := k7c6) (by decide +kernel) rfl rfl rfl (by decide +kernel)
set_option maxRecDepth 65536 in
theorem w_c30 : (Jvm.Cond.code ({ cls := "java/lang/Boolean", name := "booleanValue", desc := "()Z" } : Jvm.MethodName) jdk_2055_method_4_code (1 : Nat) (Option.some Jvm.ClassFile.FieldType.boolean)).before args0 about1 = true := code_word (m := ⟨28, 0⟩) (meth := k28m0) (c := k28c0) (by decide +kernel) rfl rfl rfl (by decide +kernel)
set_option maxRecDepth 65536 in
theorem w_c31 : (Jvm.Cond.code ({ cls := "com/example/ratabl/ratabl/engine/Lock", name := "postsOn", desc := "(Ljava/time/LocalDate;Ljava/time/LocalDate;)Ljava/time/LocalDate;" } : Jvm.MethodName) prog_38_method_5_code (3 : Nat) (Option.some (Jvm.ClassFile.FieldType.object "java/time/LocalDate"))).before args0 about1 = true := code_word (m := ⟨17, 3⟩) (meth := k17m3) (c := k17c3) (by decide +kernel) rfl rfl rfl (by decide +kernel)
set_option maxRecDepth 65536 in
theorem w_c32 : (Jvm.Cond.code ({ cls := "java/time/LocalDate", name := "toEpochDay", desc := "()J" } : Jvm.MethodName) jdk_2323_method_67_code (7 : Nat) (Option.some Jvm.ClassFile.FieldType.long)).before args0 about1 = true := code_word (m := ⟨22, 5⟩) (meth := k22m5) (c := k22c5) (by decide +kernel) rfl rfl rfl (by decide +kernel)
set_option maxRecDepth 65536 in
theorem w_c33 : (Jvm.Cond.code ({ cls := "java/util/Optional", name := "of", desc := "(Ljava/lang/Object;)Ljava/util/Optional;" } : Jvm.MethodName) jdk_32_method_3_code (1 : Nat) (Option.some (Jvm.ClassFile.FieldType.object "java/util/Optional"))).before args0 about1 = true := code_word (m := ⟨7, 2⟩) (meth := k7m2) (c := k7c2) (by decide +kernel) rfl rfl rfl (by decide +kernel)
set_option maxRecDepth 65536 in
theorem w_c34 : (Jvm.Cond.code ({ cls := "java/util/Optional", name := "<init>", desc := "(Ljava/lang/Object;)V" } : Jvm.MethodName) jdk_32_method_2_code (2 : Nat) (Option.none : Option Jvm.ClassFile.FieldType)).before args0 about1 = true := code_word (m := ⟨7, 1⟩) (meth := k7m1) (c := k7c1) (by decide +kernel) rfl rfl rfl (by decide +kernel)
set_option maxRecDepth 65536 in
theorem w_c35 : (Jvm.Cond.code ({ cls := "java/time/LocalDate", name := "isBefore", desc := "(Ljava/time/chrono/ChronoLocalDate;)Z" } : Jvm.MethodName) jdk_2323_method_72_code (2 : Nat) (Option.some Jvm.ClassFile.FieldType.boolean)).before args0 about1 = true := code_word (m := ⟨22, 7⟩) (meth := k22m7) (c := k22c7) (by decide +kernel) rfl rfl rfl (by decide +kernel)
set_option maxRecDepth 65536 in
theorem w_c36 : (Jvm.Cond.code ({ cls := "java/time/LocalDate", name := "compareTo0", desc := "(Ljava/time/LocalDate;)I" } : Jvm.MethodName) jdk_2323_method_70_code (3 : Nat) (Option.some Jvm.ClassFile.FieldType.int)).before args0 about1 = true := code_word (m := ⟨22, 6⟩) (meth := k22m6) (c := k22c6) (by decide +kernel) rfl rfl rfl (by decide +kernel)
set_option maxRecDepth 65536 in
theorem w_c37 : (Jvm.Cond.code ({ cls := "java/util/Optional", name := "ofNullable", desc := "(Ljava/lang/Object;)Ljava/util/Optional;" } : Jvm.MethodName) jdk_32_method_4_code (1 : Nat) (Option.some (Jvm.ClassFile.FieldType.object "java/util/Optional"))).before args0 about1 = true := code_word (m := ⟨7, 3⟩) (meth := k7m3) (c := k7c3) (by decide +kernel) rfl rfl rfl (by decide +kernel)
set_option maxRecDepth 65536 in
theorem w_c38 : (Jvm.Cond.code ({ cls := "java/util/Optional", name := "orElseThrow", desc := "()Ljava/lang/Object;" } : Jvm.MethodName) jdk_32_method_17_code (1 : Nat) (Option.some (Jvm.ClassFile.FieldType.object "java/lang/Object"))).before args0 about1 = true := code_word (m := ⟨7, 7⟩) (meth := k7m7) (c := k7c7) (by decide +kernel) rfl rfl rfl (by decide +kernel)
set_option maxRecDepth 65536 in
theorem w_c39 : (Jvm.Cond.code ({ cls := "java/time/LocalDate", name := "isLeapYear", desc := "()Z" } : Jvm.MethodName) jdk_2323_method_30_code (1 : Nat) (Option.some Jvm.ClassFile.FieldType.boolean)).before args0 about1 = true := code_word (m := ⟨22, 2⟩) (meth := k22m2) (c := k22c2) (by decide +kernel) rfl rfl rfl (by decide +kernel)
set_option maxRecDepth 65536 in
theorem w_c40 : (Jvm.Cond.code ({ cls := "java/time/chrono/IsoChronology", name := "isLeapYear", desc := "(J)Z" } : Jvm.MethodName) jdk_2369_method_18_code (3 : Nat) (Option.some Jvm.ClassFile.FieldType.boolean)).before args0 about1 = true := code_word (m := ⟨31, 1⟩) (meth := k31m1) (c := k31c1) (by decide +kernel) rfl rfl rfl (by decide +kernel)
set_option maxRecDepth 65536 in
theorem w_c41 : (Jvm.Cond.code ({ cls := "java/time/LocalDate", name := "plusDays", desc := "(J)Ljava/time/LocalDate;" } : Jvm.MethodName) jdk_2323_method_44_code (7 : Nat) (Option.some (Jvm.ClassFile.FieldType.object "java/time/LocalDate"))).before args0 about1 = true := code_word (m := ⟨22, 4⟩) (meth := k22m4) (c := k22c4) (by decide +kernel) rfl rfl rfl (by decide +kernel)
set_option maxRecDepth 65536 in
theorem w_c42 : (Jvm.Cond.code ({ cls := "java/time/LocalDate", name := "lengthOfMonth", desc := "()I" } : Jvm.MethodName) jdk_2323_method_31_code (1 : Nat) (Option.some Jvm.ClassFile.FieldType.int)).before args0 about1 = true := code_word (m := ⟨22, 3⟩) (meth := k22m3) (c := k22c3) (by decide +kernel) rfl rfl rfl (by decide +kernel)
def codes1 : List Jvm.Cond := [Jvm.Cond.code x code maxLocals ret, Jvm.Cond.code ({ cls := "java/util/Optional", name := "empty", desc := "()Ljava/util/Optional;" } : Jvm.MethodName) jdk_32_method_1_code (1 : Nat) (Option.some (Jvm.ClassFile.FieldType.object "java/util/Optional")), Jvm.Cond.code ({ cls := "com/example/ratabl/ratabl/model/Settings", name := "defaults", desc := "()Lcom/example/ratabl/ratabl/model/Settings;" } : Jvm.MethodName) prog_100_method_3_code (0 : Nat) (Option.some (Jvm.ClassFile.FieldType.object "com/example/ratabl/ratabl/model/Settings")), Jvm.Cond.code ({ cls := "com/example/ratabl/ratabl/model/Settings", name := "<init>", desc := "(Lcom/example/ratabl/ratabl/model/ProrationStrategy;Lcom/example/ratabl/ratabl/model/CreditNoteRevenueImpact;Lcom/example/ratabl/ratabl/model/LockDateMethod;Ljava/util/Optional;Lcom/example/ratabl/ratabl/model/AccountingDateSource;)V" } : Jvm.MethodName) prog_100_method_1_code (6 : Nat) (Option.none : Option Jvm.ClassFile.FieldType), Jvm.Cond.code ({ cls := "java/lang/Record", name := "<init>", desc := "()V" } : Jvm.MethodName) jdk_30_method_1_code (1 : Nat) (Option.none : Option Jvm.ClassFile.FieldType), Jvm.Cond.code ({ cls := "java/lang/Object", name := "<init>", desc := "()V" } : Jvm.MethodName) object_method_1_code (1 : Nat) (Option.none : Option Jvm.ClassFile.FieldType), Jvm.Cond.code ({ cls := "java/util/Objects", name := "requireNonNull", desc := "(Ljava/lang/Object;Ljava/lang/String;)Ljava/lang/Object;" } : Jvm.MethodName) jdk_31_method_11_code (2 : Nat) (Option.some (Jvm.ClassFile.FieldType.object "java/lang/Object")), Jvm.Cond.code ({ cls := "com/example/ratabl/ratabl/model/Settings", name := "allocationPartialProrationStrategy", desc := "()Lcom/example/ratabl/ratabl/model/ProrationStrategy;" } : Jvm.MethodName) prog_100_method_7_code (1 : Nat) (Option.some (Jvm.ClassFile.FieldType.object "com/example/ratabl/ratabl/model/ProrationStrategy")), Jvm.Cond.code ({ cls := "com/example/ratabl/ratabl/model/Settings", name := "creditNoteRevenueImpact", desc := "()Lcom/example/ratabl/ratabl/model/CreditNoteRevenueImpact;" } : Jvm.MethodName) prog_100_method_8_code (1 : Nat) (Option.some (Jvm.ClassFile.FieldType.object "com/example/ratabl/ratabl/model/CreditNoteRevenueImpact")), Jvm.Cond.code ({ cls := "com/example/ratabl/ratabl/model/Settings", name := "<init>", desc := "(Lcom/example/ratabl/ratabl/model/ProrationStrategy;Lcom/example/ratabl/ratabl/model/CreditNoteRevenueImpact;Lcom/example/ratabl/ratabl/model/LockDateMethod;Ljava/util/Optional;)V" } : Jvm.MethodName) prog_100_method_2_code (5 : Nat) (Option.none : Option Jvm.ClassFile.FieldType), Jvm.Cond.code ({ cls := "com/example/ratabl/ratabl/engine/Lock", name := "of", desc := "(Lcom/example/ratabl/ratabl/model/Settings;)Lcom/example/ratabl/ratabl/engine/Lock;" } : Jvm.MethodName) prog_38_method_2_code (1 : Nat) (Option.some (Jvm.ClassFile.FieldType.object "com/example/ratabl/ratabl/engine/Lock")), Jvm.Cond.code ({ cls := "com/example/ratabl/ratabl/model/Settings", name := "lockDateMethod", desc := "()Lcom/example/ratabl/ratabl/model/LockDateMethod;" } : Jvm.MethodName) prog_100_method_9_code (1 : Nat) (Option.some (Jvm.ClassFile.FieldType.object "com/example/ratabl/ratabl/model/LockDateMethod")), Jvm.Cond.code ({ cls := "com/example/ratabl/ratabl/model/Settings", name := "customLockDate", desc := "()Ljava/util/Optional;" } : Jvm.MethodName) prog_100_method_10_code (1 : Nat) (Option.some (Jvm.ClassFile.FieldType.object "java/util/Optional")), Jvm.Cond.code ({ cls := "com/example/ratabl/ratabl/engine/Lock", name := "<init>", desc := "(Lcom/example/ratabl/ratabl/model/LockDateMethod;Ljava/util/Optional;)V" } : Jvm.MethodName) prog_38_method_1_code (3 : Nat) (Option.none : Option Jvm.ClassFile.FieldType), Jvm.Cond.code ({ cls := "java/time/LocalDate", name := "ofEpochDay", desc := "(J)Ljava/time/LocalDate;" } : Jvm.MethodName) jdk_2323_method_8_code (14 : Nat) (Option.some (Jvm.ClassFile.FieldType.object "java/time/LocalDate")), Jvm.Cond.code ({ cls := "java/time/temporal/ChronoField", name := "checkValidValue", desc := "(J)J" } : Jvm.MethodName) jdk_2395_method_11_code (3 : Nat) (Option.some Jvm.ClassFile.FieldType.long), Jvm.Cond.code ({ cls := "java/time/temporal/ChronoField", name := "range", desc := "()Ljava/time/temporal/ValueRange;" } : Jvm.MethodName) jdk_2395_method_8_code (1 : Nat) (Option.some (Jvm.ClassFile.FieldType.object "java/time/temporal/ValueRange")), Jvm.Cond.code ({ cls := "java/time/temporal/ValueRange", name := "checkValidValue", desc := "(JLjava/time/temporal/TemporalField;)J" } : Jvm.MethodName) jdk_2423_method_13_code (4 : Nat) (Option.some Jvm.ClassFile.FieldType.long), Jvm.Cond.code ({ cls := "java/time/temporal/ValueRange", name := "isValidValue", desc := "(J)Z" } : Jvm.MethodName) jdk_2423_method_11_code (3 : Nat) (Option.some Jvm.ClassFile.FieldType.boolean), Jvm.Cond.code ({ cls := "java/time/temporal/ValueRange", name := "getMinimum", desc := "()J" } : Jvm.MethodName) jdk_2423_method_6_code (1 : Nat) (Option.some Jvm.ClassFile.FieldType.long), Jvm.Cond.code ({ cls := "java/time/temporal/ValueRange", name := "getMaximum", desc := "()J" } : Jvm.MethodName) jdk_2423_method_9_code (1 : Nat) (Option.some Jvm.ClassFile.FieldType.long), Jvm.Cond.code ({ cls := "java/time/LocalDate", name := "<init>", desc := "(III)V" } : Jvm.MethodName) jdk_2323_method_14_code (4 : Nat) (Option.none : Option Jvm.ClassFile.FieldType), Jvm.Cond.code ({ cls := "com/example/ratabl/ratabl/engine/Lock", name := "closes", desc := "(Ljava/time/LocalDate;Ljava/time/LocalDate;)Z" } : Jvm.MethodName) prog_38_method_4_code (3 : Nat) (Option.some Jvm.ClassFile.FieldType.boolean), Jvm.Cond.code ({ cls := "com/example/ratabl/ratabl/engine/Lock", name := "firstOpen", desc := "(Ljava/time/LocalDate;)Ljava/util/Optional;" } : Jvm.MethodName) prog_38_method_6_code (2 : Nat) (Option.some (Jvm.ClassFile.FieldType.object "java/util/Optional")), Jvm.Cond.code ({ cls := "java/lang/Enum", name := "ordinal", desc := "()I" } : Jvm.MethodName) jdk_37_method_2_code (1 : Nat) (Option.some Jvm.ClassFile.FieldType.int), Jvm.Cond.code ({ cls := "java/util/Objects", name := "requireNonNull", desc := "(Ljava/lang/Object;)Ljava/lang/Object;" } : Jvm.MethodName) jdk_31_method_10_code (1 : Nat) (Option.some (Jvm.ClassFile.FieldType.object "java/lang/Object")), Jvm.Cond.code ({ cls := "java/util/Optional", name := "map", desc := "(Ljava/util/function/Function;)Ljava/util/Optional;" } : Jvm.MethodName) jdk_32_method_11_code (2 : Nat) (Option.some (Jvm.ClassFile.FieldType.object "java/util/Optional")), Jvm.Cond.code ({ cls := "java/util/Optional", name := "isEmpty", desc := "()Z" } : Jvm.MethodName) jdk_32_method_7_code (1 : Nat) (Option.some Jvm.ClassFile.FieldType.boolean), Jvm.Cond.code ({ cls := "java/lang/Boolean", name := "valueOf", desc := "(Z)Ljava/lang/Boolean;" } : Jvm.MethodName) jdk_2055_method_5_code (1 : Nat) (Option.some (Jvm.ClassFile.FieldType.object "java/lang/Boolean")), Jvm.Cond.code ({ cls := "java/util/Optional", name := "orElse", desc := "(Ljava/lang/Object;)Ljava/lang/Object;" } : Jvm.MethodName) jdk_32_method_15_code (2 : Nat) (Option.some (Jvm.ClassFile.FieldType.object "java/lang/Object")), Jvm.Cond.code ({ cls := "java/lang/Boolean", name := "booleanValue", desc := "()Z" } : Jvm.MethodName) jdk_2055_method_4_code (1 : Nat) (Option.some Jvm.ClassFile.FieldType.boolean), Jvm.Cond.code ({ cls := "com/example/ratabl/ratabl/engine/Lock", name := "postsOn", desc := "(Ljava/time/LocalDate;Ljava/time/LocalDate;)Ljava/time/LocalDate;" } : Jvm.MethodName) prog_38_method_5_code (3 : Nat) (Option.some (Jvm.ClassFile.FieldType.object "java/time/LocalDate")), Jvm.Cond.code ({ cls := "java/time/LocalDate", name := "toEpochDay", desc := "()J" } : Jvm.MethodName) jdk_2323_method_67_code (7 : Nat) (Option.some Jvm.ClassFile.FieldType.long), Jvm.Cond.code ({ cls := "java/util/Optional", name := "of", desc := "(Ljava/lang/Object;)Ljava/util/Optional;" } : Jvm.MethodName) jdk_32_method_3_code (1 : Nat) (Option.some (Jvm.ClassFile.FieldType.object "java/util/Optional")), Jvm.Cond.code ({ cls := "java/util/Optional", name := "<init>", desc := "(Ljava/lang/Object;)V" } : Jvm.MethodName) jdk_32_method_2_code (2 : Nat) (Option.none : Option Jvm.ClassFile.FieldType), Jvm.Cond.code ({ cls := "java/time/LocalDate", name := "isBefore", desc := "(Ljava/time/chrono/ChronoLocalDate;)Z" } : Jvm.MethodName) jdk_2323_method_72_code (2 : Nat) (Option.some Jvm.ClassFile.FieldType.boolean), Jvm.Cond.code ({ cls := "java/time/LocalDate", name := "compareTo0", desc := "(Ljava/time/LocalDate;)I" } : Jvm.MethodName) jdk_2323_method_70_code (3 : Nat) (Option.some Jvm.ClassFile.FieldType.int), Jvm.Cond.code ({ cls := "java/util/Optional", name := "ofNullable", desc := "(Ljava/lang/Object;)Ljava/util/Optional;" } : Jvm.MethodName) jdk_32_method_4_code (1 : Nat) (Option.some (Jvm.ClassFile.FieldType.object "java/util/Optional")), Jvm.Cond.code ({ cls := "java/util/Optional", name := "orElseThrow", desc := "()Ljava/lang/Object;" } : Jvm.MethodName) jdk_32_method_17_code (1 : Nat) (Option.some (Jvm.ClassFile.FieldType.object "java/lang/Object")), Jvm.Cond.code ({ cls := "java/time/LocalDate", name := "isLeapYear", desc := "()Z" } : Jvm.MethodName) jdk_2323_method_30_code (1 : Nat) (Option.some Jvm.ClassFile.FieldType.boolean), Jvm.Cond.code ({ cls := "java/time/chrono/IsoChronology", name := "isLeapYear", desc := "(J)Z" } : Jvm.MethodName) jdk_2369_method_18_code (3 : Nat) (Option.some Jvm.ClassFile.FieldType.boolean), Jvm.Cond.code ({ cls := "java/time/LocalDate", name := "plusDays", desc := "(J)Ljava/time/LocalDate;" } : Jvm.MethodName) jdk_2323_method_44_code (7 : Nat) (Option.some (Jvm.ClassFile.FieldType.object "java/time/LocalDate")), Jvm.Cond.code ({ cls := "java/time/LocalDate", name := "lengthOfMonth", desc := "()I" } : Jvm.MethodName) jdk_2323_method_31_code (1 : Nat) (Option.some Jvm.ClassFile.FieldType.int)]
set_option maxRecDepth 65536 in
theorem codes_eq : words1.filter isCode = codes1 := rfl
theorem w_codes : ∀ c ∈ words1.filter isCode, c.before args0 about1 = true := by
  rw [codes_eq]
  intro c hc
  simp only [codes1, List.mem_cons, List.not_mem_nil, or_false] at hc
  rcases hc with rfl | rfl | rfl | rfl | rfl | rfl | rfl | rfl | rfl | rfl | rfl | rfl | rfl | rfl | rfl | rfl | rfl | rfl | rfl | rfl | rfl | rfl | rfl | rfl | rfl | rfl | rfl | rfl | rfl | rfl | rfl | rfl | rfl | rfl | rfl | rfl | rfl | rfl | rfl | rfl | rfl | rfl | rfl
  · exact w_c0
  · exact w_c1
  · exact w_c2
  · exact w_c3
  · exact w_c4
  · exact w_c5
  · exact w_c6
  · exact w_c7
  · exact w_c8
  · exact w_c9
  · exact w_c10
  · exact w_c11
  · exact w_c12
  · exact w_c13
  · exact w_c14
  · exact w_c15
  · exact w_c16
  · exact w_c17
  · exact w_c18
  · exact w_c19
  · exact w_c20
  · exact w_c21
  · exact w_c22
  · exact w_c23
  · exact w_c24
  · exact w_c25
  · exact w_c26
  · exact w_c27
  · exact w_c28
  · exact w_c29
  · exact w_c30
  · exact w_c31
  · exact w_c32
  · exact w_c33
  · exact w_c34
  · exact w_c35
  · exact w_c36
  · exact w_c37
  · exact w_c38
  · exact w_c39
  · exact w_c40
  · exact w_c41
  · exact w_c42
set_option maxRecDepth 65536 in
theorem w_t1 : (words1.take 24).all (fun c => isCode c || c.before args0 about1) = true := by decide +kernel
set_option maxRecDepth 65536 in
theorem w_t2 : ((words1.drop 24).take 24).all (fun c => isCode c || c.before args0 about1) = true := by decide +kernel
set_option maxRecDepth 65536 in
theorem w_t3 : (((words1.drop 24).drop 24).take 24).all (fun c => isCode c || c.before args0 about1) = true := by decide +kernel
set_option maxRecDepth 65536 in
theorem w_t4 : ((((words1.drop 24).drop 24).drop 24).take 24).all (fun c => isCode c || c.before args0 about1) = true := by decide +kernel
set_option maxRecDepth 65536 in
theorem w_t5 : (((((words1.drop 24).drop 24).drop 24).drop 24).take 24).all (fun c => isCode c || c.before args0 about1) = true := by decide +kernel
set_option maxRecDepth 65536 in
theorem w_t6 : ((((((words1.drop 24).drop 24).drop 24).drop 24).drop 24).take 24).all (fun c => isCode c || c.before args0 about1) = true := by decide +kernel
set_option maxRecDepth 65536 in
theorem w_t7 : (((((((words1.drop 24).drop 24).drop 24).drop 24).drop 24).drop 24).take 24).all (fun c => isCode c || c.before args0 about1) = true := by decide +kernel
set_option maxRecDepth 65536 in
theorem w_t8 : ((((((((words1.drop 24).drop 24).drop 24).drop 24).drop 24).drop 24).drop 24).take 24).all (fun c => isCode c || c.before args0 about1) = true := by decide +kernel
set_option maxRecDepth 65536 in
theorem w_t9 : (((((((((words1.drop 24).drop 24).drop 24).drop 24).drop 24).drop 24).drop 24).drop 24).take 24).all (fun c => isCode c || c.before args0 about1) = true := by decide +kernel
set_option maxRecDepth 65536 in
theorem w_t10 : ((((((((((words1.drop 24).drop 24).drop 24).drop 24).drop 24).drop 24).drop 24).drop 24).drop 24).take 24).all (fun c => isCode c || c.before args0 about1) = true := by decide +kernel
set_option maxRecDepth 65536 in
theorem w_t11 : (((((((((((words1.drop 24).drop 24).drop 24).drop 24).drop 24).drop 24).drop 24).drop 24).drop 24).drop 24).take 24).all (fun c => isCode c || c.before args0 about1) = true := by decide +kernel
set_option maxRecDepth 65536 in
theorem w_t12 : ((((((((((((words1.drop 24).drop 24).drop 24).drop 24).drop 24).drop 24).drop 24).drop 24).drop 24).drop 24).drop 24).take 24).all (fun c => isCode c || c.before args0 about1) = true := by decide +kernel
set_option maxRecDepth 65536 in
theorem w_t13 : (((((((((((((words1.drop 24).drop 24).drop 24).drop 24).drop 24).drop 24).drop 24).drop 24).drop 24).drop 24).drop 24).drop 24).take 24).all (fun c => isCode c || c.before args0 about1) = true := by decide +kernel
set_option maxRecDepth 65536 in
theorem w_t14 : (((((((((((((words1.drop 24).drop 24).drop 24).drop 24).drop 24).drop 24).drop 24).drop 24).drop 24).drop 24).drop 24).drop 24).drop 24).all (fun c => isCode c || c.before args0 about1) = true := by decide +kernel
theorem w_tables : (allAtoms (Jvm.Cond.code x code maxLocals ret :: tables_1)).before args0 about1 = true := by
  rw [allAtoms_all]
  show words1.all (fun c => c.before args0 about1) = true
  refine all_split ?_ w_codes
  rw [← List.take_append_drop 24 words1, List.all_append, w_t1, ← List.take_append_drop 24 (words1.drop 24), List.all_append, w_t2, ← List.take_append_drop 24 ((words1.drop 24).drop 24), List.all_append, w_t3, ← List.take_append_drop 24 (((words1.drop 24).drop 24).drop 24), List.all_append, w_t4, ← List.take_append_drop 24 ((((words1.drop 24).drop 24).drop 24).drop 24), List.all_append, w_t5, ← List.take_append_drop 24 (((((words1.drop 24).drop 24).drop 24).drop 24).drop 24), List.all_append, w_t6, ← List.take_append_drop 24 ((((((words1.drop 24).drop 24).drop 24).drop 24).drop 24).drop 24), List.all_append, w_t7, ← List.take_append_drop 24 (((((((words1.drop 24).drop 24).drop 24).drop 24).drop 24).drop 24).drop 24), List.all_append, w_t8, ← List.take_append_drop 24 ((((((((words1.drop 24).drop 24).drop 24).drop 24).drop 24).drop 24).drop 24).drop 24), List.all_append, w_t9, ← List.take_append_drop 24 (((((((((words1.drop 24).drop 24).drop 24).drop 24).drop 24).drop 24).drop 24).drop 24).drop 24), List.all_append, w_t10, ← List.take_append_drop 24 ((((((((((words1.drop 24).drop 24).drop 24).drop 24).drop 24).drop 24).drop 24).drop 24).drop 24).drop 24), List.all_append, w_t11, ← List.take_append_drop 24 (((((((((((words1.drop 24).drop 24).drop 24).drop 24).drop 24).drop 24).drop 24).drop 24).drop 24).drop 24).drop 24), List.all_append, w_t12, ← List.take_append_drop 24 ((((((((((((words1.drop 24).drop 24).drop 24).drop 24).drop 24).drop 24).drop 24).drop 24).drop 24).drop 24).drop 24).drop 24), List.all_append, w_t13, w_t14]
  rfl
set_option maxRecDepth 65536 in
theorem w_rest : rest_1_c.before args0 about1 = true := by decide +kernel
set_option maxRecDepth 65536 in
theorem w_case : (Jvm.Cond.and given_1 narrow_1).before args0 about1 = true := by decide +kernel
theorem w_applies : (headSpec (Jvm.Cond.code x code maxLocals ret :: tables_1) room_1).applies x e0.platform about1 = true :=
  (Spec.applies_iff w_frames).mpr ⟨w_running, w_runnable, w_alone, w_named, w_hears, w_ripe, w_room, w_tables⟩
theorem atStart : AtStart classFile x code maxLocals ret World_1 tables_1 room_1 Calls_1 rest_1 Pre_1 launch0 p0 e0 about1 theMethod args0 below0 :=
  ⟨lists_1, trivial, launch0.admits_env _ _ _, launch0.least_env, fairChoices_fair.cas, fairChoices_fair.clock, w_frames, w_args, w_heap, w_applies, trivial, w_rest, w_case⟩
end start1
theorem witness_1 : WitnessClaimed_1 := ⟨start1.p0, start1.e0, start1.about1, start1.theMethod, start1.args0, start1.below0, start1.atStart⟩
end Jvm.Pilot.@@N@@
