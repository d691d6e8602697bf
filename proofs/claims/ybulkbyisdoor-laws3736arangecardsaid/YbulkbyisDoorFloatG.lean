import Derived.Test.YbulkbyisDoorFloatF
namespace Go.Proofs.YbulkbyisDoor.Fl
open Ieee

theorem r24 : Rep (24 * (TN : Int)) := by have := rep_T 24 48 (by decide) (by decide) (by decide); exact_mod_cast this
theorem r64 : Rep (64 * (TN : Int)) := by have := rep_T 64 46 (by decide) (by decide) (by decide); exact_mod_cast this
theorem r9 : Rep (9 * (TN : Int)) := by have := rep_T 9 49 (by decide) (by decide) (by decide); exact_mod_cast this
theorem r8 : Rep (8 * (TN : Int)) := by have := rep_T 8 49 (by decide) (by decide) (by decide); exact_mod_cast this
theorem r56 : Rep (56 * (TN : Int)) := by have := rep_T 56 47 (by decide) (by decide) (by decide); exact_mod_cast this
theorem r33 : Rep (33 * (TN : Int)) := by have := rep_T 33 47 (by decide) (by decide) (by decide); exact_mod_cast this
theorem r40 : Rep (40 * (TN : Int)) := by have := rep_T 40 47 (by decide) (by decide) (by decide); exact_mod_cast this
theorem r97 : Rep (97 * (TN : Int)) := by have := rep_T 97 46 (by decide) (by decide) (by decide); exact_mod_cast this

theorem SN_TN' : (SN : Int) = 64 * (TN : Int) := by have := SN_TN; omega
theorem TN_pos : (0 : Int) < (TN : Int) := by have := SN_TN; have := SN_pos; omega

theorem fin_T {z : Nat} (h : z < 2 ^ 64) (h1 : V z ≤ 97 * (TN : Int)) (h2 : -(97 * (TN : Int)) ≤ V z) : Fin' z := by
  have := TN_def
  refine fin_small h ?_ ?_ <;> (generalize TN = T at *; generalize DN = D at *; generalize V z = v at *; omega)

/-- Products of bounded factors. -/
theorem mul_bound {a b p q : Int} (ha : a ≤ p) (ha' : -p ≤ a) (hb : b ≤ q) (hb' : -q ≤ b) : a * b ≤ p * q ∧ -(p * q) ≤ a * b := by
  have hp : 0 ≤ p := by omega
  have hq : 0 ≤ q := by omega
  have h : (a * b).natAbs ≤ p.natAbs * q.natAbs := by
    rw [Int.natAbs_mul]
    exact Nat.mul_le_mul (by omega) (by omega)
  have e : ((p.natAbs * q.natAbs : Nat) : Int) = p * q := by rw [Int.natCast_mul, Int.natAbs_of_nonneg hp, Int.natAbs_of_nonneg hq]
  omega

theorem horner {c r q : Nat} (fc : Fin' c) (fr : Fin' r) (fq : Fin' q) (c0 : 0 ≤ V c) (c1 : V c ≤ 32 * (TN : Int)) (r1 : V r ≤ 24 * (TN : Int)) (r2 : -(24 * (TN : Int)) ≤ V r)
    (q1 : V q ≤ 64 * (TN : Int)) (q2 : -(64 * (TN : Int)) ≤ V q) :
    ∃ p z, double.mul r q = some p ∧ double.add c p = some z ∧ Fin' z ∧ V z ≤ 64 * (TN : Int) ∧ -(64 * (TN : Int)) ≤ V z ∧ (V c = 32 * (TN : Int) → 8 * (TN : Int) ≤ V z ∧ V z ≤ 56 * (TN : Int)) := by
  have hS := SN_TN'
  have hT := TN_pos
  obtain ⟨p, ep, rp⟩ := mul_rd fr fq
  have hb := mul_bound r1 r2 q1 q2
  rw [← hS] at hb
  have p1 : V p ≤ 24 * (TN : Int) := rp.le _ r24 hb.1
  have p2 : -(24 * (TN : Int)) ≤ V p := rp.ge _ r24.neg (by rw [Int.neg_mul]; exact hb.2)
  have fp : Fin' p := fin_T rp.lt (by omega) (by omega)
  obtain ⟨z, ez, rz⟩ := add_rd fc fp
  have z1 : V z ≤ 56 * (TN : Int) := rz.le _ r56 (by omega)
  have z2 : -(24 * (TN : Int)) ≤ V z := rz.ge _ r24.neg (by omega)
  refine ⟨p, z, ep, ez, fin_T rz.lt (by omega) (by omega), by omega, by omega, fun hc => ⟨rz.ge _ r8 (by omega), z1⟩⟩

theorem tail {r q : Nat} (fr : Fin' r) (fq : Fin' q) (r1 : V r ≤ 24 * (TN : Int)) (r2 : -(24 * (TN : Int)) ≤ V r) (q1 : V q ≤ 56 * (TN : Int)) (q2 : 8 * (TN : Int) ≤ V q) :
    ∃ u1 u2 v t, double.mul r r = some u1 ∧ double.mul u1 q = some u2 ∧ double.add r u2 = some v ∧ double.add 4607182418800017408 v = some t ∧ Fin' t ∧
      40 * (TN : Int) ≤ V t ∧ V t ≤ 97 * (TN : Int) ∧ (V r ≤ 0 → V t ≤ 64 * (TN : Int)) ∧ (V r = 0 → V t = 64 * (TN : Int)) := by
  have hS := SN_TN'
  have hT := TN_pos
  obtain ⟨u1, e1, k1⟩ := mul_rd fr fr
  have hb := mul_bound r1 r2 r1 r2
  have hnn : 0 ≤ V r * V r := by
    rcases Int.le_total 0 (V r) with h | h
    · exact Int.mul_nonneg h h
    · exact Int.mul_nonneg_of_nonpos_of_nonpos h h
  have a1 : V u1 ≤ 9 * (TN : Int) := k1.le _ r9 (by
    rw [hS]
    have : 24 * (TN : Int) * (24 * (TN : Int)) = 9 * (TN : Int) * (64 * (TN : Int)) := by
      rw [Int.mul_assoc, Int.mul_left_comm (TN : Int) 24, Int.mul_assoc 9, Int.mul_left_comm (TN : Int) 64]; omega
    omega)
  have a2 : 0 ≤ V u1 := k1.ge _ rep_zero (by rw [Int.zero_mul]; exact hnn)
  have f1 : Fin' u1 := fin_T k1.lt (by omega) (by omega)
  obtain ⟨u2, e2, k2⟩ := mul_rd f1 fq
  have b1 : V u2 ≤ V u1 := k2.le _ f1.rep (Int.mul_le_mul_of_nonneg_left (by omega) a2)
  have b2 : 0 ≤ V u2 := k2.ge _ rep_zero (by rw [Int.zero_mul]; exact Int.mul_nonneg a2 (by omega))
  have f2 : Fin' u2 := fin_T k2.lt (by omega) (by omega)
  obtain ⟨v, e3, k3⟩ := add_rd fr f2
  have c1 : V v ≤ 33 * (TN : Int) := k3.le _ r33 (by omega)
  have c2 : -(24 * (TN : Int)) ≤ V v := k3.ge _ r24.neg (by omega)
  have f3 : Fin' v := fin_T k3.lt (by omega) (by omega)
  obtain ⟨t, e4, k4⟩ := add_rd one_fin f3
  rw [one_V, hS] at k4
  have d1 : V t ≤ 97 * (TN : Int) := k4.le _ r97 (by omega)
  have d2 : 40 * (TN : Int) ≤ V t := k4.ge _ r40 (by omega)
  have hneg : V r ≤ 0 → V v ≤ 0 := by
    intro h
    have : V u1 ≤ - V r := k1.le _ fr.rep.neg (by
      rw [← Int.neg_mul_neg]
      exact Int.mul_le_mul_of_nonneg_left (by omega) (by omega))
    exact k3.le _ rep_zero (by omega)
  refine ⟨u1, u2, v, t, e1, e2, e3, e4, fin_T k4.lt (by omega) (by omega), d2, d1, fun h => k4.le _ r64 (by have := hneg h; omega), fun h => ?_⟩
  have v0 : V v = 0 := by
    have h1 := hneg (by omega)
    have h2 : 0 ≤ V v := k3.ge _ rep_zero (by omega)
    omega
  have h3 : V t ≤ 64 * (TN : Int) := k4.le _ r64 (by omega)
  have h4 : 64 * (TN : Int) ≤ V t := k4.ge _ r64 (by omega)
  omega

/-! ### The series' numbers -/
def tay : List Nat := [4602678819172646912, 4595172819793696085, 4586165620538955093, 4575957461383581969, 4564047942368979991, 4551452160554016794, 4537941361671905306, 4523617214285662004, 4508805057796939612, 4493156764026750180, 4477122120089393304, 4460272573143870729]
theorem half_T : V 4602678819172646912 = 32 * (TN : Int) := by rw [half_V]; have := TN_def; omega
theorem tay_le : ∀ j : Fin 12, tay.getD j.val 0 ≤ 4602678819172646912 := by decide
theorem tay_ok (j : Nat) (h : j < 12) : Fin' (tay.getD j 0) ∧ 0 ≤ V (tay.getD j 0) ∧ V (tay.getD j 0) ≤ 32 * (TN : Int) := by
  have hle : tay.getD j 0 ≤ 4602678819172646912 := tay_le ⟨j, h⟩
  generalize tay.getD j 0 = w at hle
  have hw : w < 2 ^ 63 := by omega
  refine ⟨⟨by rw [infR_def]; omega, by omega⟩, by rw [V_pos hw]; omega, ?_⟩
  rw [← half_T, V_pos hw, V_pos (by decide)]
  have := uv_mono hle
  generalize uv 4602678819172646912 = u at *
  omega

/-- The sums of the series: 'hq r j' after j rounds. -/
def hp (r q : Nat) : Nat := (double.mul r q).getD 0
def hq (r : Nat) : Nat → Nat
  | 0 => 4460272573143870729
  | j + 1 => (double.add (tay.getD (10 - j) 0) (hp r (hq r j))).getD 0

theorem hq_ok {r : Nat} (fr : Fin' r) (r1 : V r ≤ 24 * (TN : Int)) (r2 : -(24 * (TN : Int)) ≤ V r) : ∀ j, j ≤ 11 →
    Fin' (hq r j) ∧ V (hq r j) ≤ 64 * (TN : Int) ∧ -(64 * (TN : Int)) ≤ V (hq r j) := by
  intro j
  induction j with
  | zero =>
    intro _
    have h := tay_ok 11 (by decide)
    have e : tay.getD 11 0 = 4460272573143870729 := by decide
    rw [e] at h
    show Fin' 4460272573143870729 ∧ _ 
    have hT := TN_pos
    unfold hq
    generalize V 4460272573143870729 = v at *
    exact ⟨h.1, by omega, by omega⟩
  | succ j ih =>
    intro hj
    obtain ⟨f, a, b⟩ := ih (by omega)
    obtain ⟨fc, c0, c1⟩ := tay_ok (10 - j) (by omega)
    obtain ⟨p, z, ep, ez, fz, z1, z2, _⟩ := horner fc fr f c0 c1 r1 r2 a b
    have e : hq r (j + 1) = z := by
      show (double.add (tay.getD (10 - j) 0) (hp r (hq r j))).getD 0 = z
      unfold hp
      rw [ep, Option.getD_some, ez, Option.getD_some]
    rw [e]
    exact ⟨fz, z1, z2⟩
theorem hq_step {r : Nat} (fr : Fin' r) (r1 : V r ≤ 24 * (TN : Int)) (r2 : -(24 * (TN : Int)) ≤ V r) (j : Nat) (hj : j < 11) :
    double.mul r (hq r j) = some (hp r (hq r j)) ∧ double.add (tay.getD (10 - j) 0) (hp r (hq r j)) = some (hq r (j + 1)) := by
  obtain ⟨f, a, b⟩ := hq_ok fr r1 r2 j (by omega)
  obtain ⟨fc, c0, c1⟩ := tay_ok (10 - j) (by omega)
  obtain ⟨p, z, ep, ez, _⟩ := horner fc fr f c0 c1 r1 r2 a b
  have e1 : hp r (hq r j) = p := by unfold hp; rw [ep, Option.getD_some]
  have e : hq r (j + 1) = z := by
    show (double.add (tay.getD (10 - j) 0) (hp r (hq r j))).getD 0 = z
    rw [e1, ez, Option.getD_some]
  rw [e, e1]
  exact ⟨ep, ez⟩
theorem hq_last {r : Nat} (fr : Fin' r) (r1 : V r ≤ 24 * (TN : Int)) (r2 : -(24 * (TN : Int)) ≤ V r) :
    Fin' (hq r 11) ∧ V (hq r 11) ≤ 56 * (TN : Int) ∧ 8 * (TN : Int) ≤ V (hq r 11) := by
  obtain ⟨f, a, b⟩ := hq_ok fr r1 r2 10 (by omega)
  obtain ⟨fc, c0, c1⟩ := tay_ok 0 (by omega)
  obtain ⟨p, z, ep, ez, fz, _, _, hz⟩ := horner fc fr f c0 c1 r1 r2 a b
  have e : hq r 11 = z := by
    show (double.add (tay.getD (10 - 10) 0) (hp r (hq r 10))).getD 0 = z
    unfold hp
    rw [ep, Option.getD_some, ez, Option.getD_some]
  rw [e]
  have e0 : tay.getD 0 0 = 4602678819172646912 := by decide
  have := hz (by rw [e0]; exact half_T)
  exact ⟨fz, this.2, this.1⟩
end Go.Proofs.YbulkbyisDoor.Fl
