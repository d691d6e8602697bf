import Derived.Test.YbulkbyisDoorFloatG
namespace Go.Proofs.YbulkbyisDoor.Fl
open Ieee

/-! ### Scaling by a power of two (math.ldexp) at a number between 5/8 and 97/64 -/
theorem two_fin : Fin' 4611686018427387904 := fin_const _ (by decide) (by decide)
theorem two_V : V 4611686018427387904 = 128 * (TN : Int) := by
  have h : V 4611686018427387904 * ((2 ^ 51 : Nat) : Int) = ((4503599627370496 : Nat) : Int) * (SN : Int) := uv_int (e := 1023) (by decide) (by decide) (by decide) (by decide) (by decide)
  have := SN_TN
  generalize V 4611686018427387904 = v at *
  generalize SN = S at *
  generalize TN = T at *
  omega
theorem V_nonpos_of_ge {w : Nat} (h : 2 ^ 63 ≤ w) (h2 : w < 2 ^ 64) : V w ≤ 0 := by
  obtain ⟨r, rfl⟩ : ∃ r, w = 2 ^ 63 + r := ⟨w - 2 ^ 63, by omega⟩
  rw [V_negw (by omega)]
  omega
theorem V_le_iff {a b : Nat} (ha : a < 2 ^ 63) (hb : b < 2 ^ 63) : V a ≤ V b ↔ a ≤ b := by
  rw [V_pos ha, V_pos hb, ← uv_le_iff]
  omega

theorem t_bits {t : Nat} (ft : Fin' t) (h1 : 40 * (TN : Int) ≤ V t) (h2 : V t ≤ 97 * (TN : Int)) : t < 2 ^ 63 ∧ 4602678819172646912 ≤ t ∧ t < 4611686018427387904 := by
  have hT := TN_pos
  have h64 := ft.2
  have h63 : t < 2 ^ 63 := by
    rcases Nat.lt_or_ge t (2 ^ 63) with h | h
    · exact h
    · have := V_nonpos_of_ge h h64; omega
  refine ⟨h63, ?_, ?_⟩
  · rw [← V_le_iff (by decide) h63, half_T]; omega
  · rw [← Nat.not_le, ← V_le_iff (by decide) h63, two_V]; omega

/-- What a scaling answers. -/
structure LdR (t : Nat) (K : Int) (z : Nat) : Prop where
  fin : Fin' z
  lo : 0 ≤ V z
  hi : V z ≤ (SN : Int)
  same : K = 0 → V z = V t
  pos : -651 ≤ K → 8 ≤ V z

theorem uv_8 : uv 8 = 8 := by
  unfold uv
  rw [if_pos (by rw [bin_def]; decide)]
theorem V_8 : V 8 = 8 := by rw [V_pos (by decide), uv_8]; rfl

theorem ld_normal {t y : Nat} {K E' : Int} (ft : Fin' t) (h1 : 40 * (TN : Int) ≤ V t) (h2 : V t ≤ 97 * (TN : Int)) (hK : K ≤ 0) (hs : K = 0 → V t ≤ 64 * (TN : Int))
    (hE : E' = K + (t / 2 ^ 52 : Nat)) (hE1 : 1 ≤ E') (hy : y = E'.toNat * 2 ^ 52 + t % 2 ^ 52) :
    ∃ z, double.mul 4607182418800017408 y = some z ∧ LdR t K z := by
  obtain ⟨h63, hb1, hb2⟩ := t_bits ft h1 h2
  have hT := TN_pos
  have hS := SN_TN'
  have hy63 : y < 2 ^ 63 := by omega
  have fy : Fin' y := fin_const _ (by omega) (by omega)
  obtain ⟨z, ez, rz⟩ := mul_rd one_fin fy
  rw [one_V] at rz
  have vz : V z = V y := rz.exactB fy.rep (Int.mul_comm _ _)
  have hyt : K = 0 → y = t := fun h => by omega
  have hle : V y ≤ 64 * (TN : Int) := by
    rcases Int.lt_or_le K 0 with h | h
    · rw [← hS, ← one_V, V_le_iff hy63 (by decide)]
      omega
    · have h0 : K = 0 := by omega
      rw [hyt h0]
      exact hs h0
  have hnn : 0 ≤ V y := by rw [V_pos hy63]; omega
  refine ⟨z, ez, fin_T rz.lt (by omega) (by omega), by omega, by omega, fun h => by rw [vz, hyt h], fun h => ?_⟩
  rw [vz, ← V_8, V_le_iff (by decide) hy63]
  omega

theorem p53_fin : Fin' 4368491638549381120 := fin_const _ (by decide) (by decide)
theorem ld_small {t y : Nat} {K : Int} (hK : K < -651) (hy : y < 54 * 2 ^ 52) :
    ∃ z, double.mul 4368491638549381120 y = some z ∧ LdR t K z := by
  have hT := TN_pos
  have hS := SN_TN'
  have hy63 : y < 2 ^ 63 := by omega
  have fy : Fin' y := fin_const _ (by omega) (by omega)
  obtain ⟨z, ez, rz⟩ := mul_rd p53_fin fy
  have a1 : V 4368491638549381120 ≤ (SN : Int) := by rw [← one_V, V_le_iff (by decide) (by decide)]; decide
  have a2 : 0 ≤ V 4368491638549381120 := by
    rw [V_pos (by decide)]
    generalize uv 4368491638549381120 = u
    omega
  have b1 : V y ≤ (SN : Int) := by rw [← one_V, V_le_iff hy63 (by decide)]; omega
  have b2 : 0 ≤ V y := by rw [V_pos hy63]; omega
  have z1 : V z ≤ (SN : Int) := rz.le _ (one_V ▸ one_fin.rep) (mul_bound a1 (by omega) b1 (by omega)).1
  have z2 : 0 ≤ V z := rz.ge _ rep_zero (by rw [Int.zero_mul]; exact Int.mul_nonneg a2 b2)
  exact ⟨z, ez, fin_T rz.lt (by omega) (by omega), z2, z1, fun h => by omega, fun h => by omega⟩
theorem V_0 : V 0 = 0 := by rw [V_pos (by decide), uv_zero]; rfl
theorem ld_zero {t : Nat} {K : Int} (hK : K < -651) : LdR t K 0 := by
  have hT := TN_pos
  have hS := SN_TN'
  exact ⟨fin_const _ (by decide) (by decide), by rw [V_0]; omega, by rw [V_0]; omega, fun h => by omega, fun h => by omega⟩

/-! ### What exp answers at a finite number not above zero -/
structure ExpR (x z : Nat) : Prop where
  fin : Fin' z
  lo : 0 ≤ V z
  hi : V z ≤ (SN : Int)
  under : V x < -(746 * (SN : Int)) → V z = 0
  pos : -(450 * (SN : Int)) ≤ V x → 8 ≤ V z
  near : -(SN : Int) ≤ 4 * V x → 40 * (TN : Int) ≤ V z
  one : V x = 0 → V z = (SN : Int)

theorem expR_under {x : Nat} (h : V x < -(746 * (SN : Int))) : ExpR x 0 := by
  have hT := TN_pos
  have hS := SN_TN'
  exact ⟨fin_const _ (by decide) (by decide), by rw [V_0]; omega, by rw [V_0]; omega, fun _ => V_0, fun h => by omega, fun h => by omega, fun h => by omega⟩

/-! ### The density -/
theorem inv_fin : Fin' 4600858325139338833 := fin_const _ (by decide) (by decide)
theorem inv_lin1 (v T : Int) (h : v * 18014398509481984 ≤ 7186705221432913 * (64 * T)) (hT : 0 < T) : v ≤ 32 * T := by omega
theorem inv_lin2 (v T : Int) (h : 7186705221432913 * (64 * T) ≤ v * 18014398509481984) (hT : 0 < T) : 16 * T ≤ v := by omega
theorem inv_V : V 4600858325139338833 ≤ 32 * (TN : Int) ∧ 16 * (TN : Int) ≤ V 4600858325139338833 := by
  have h : V 4600858325139338833 * ((2 ^ 54 : Nat) : Int) = ((7186705221432913 : Nat) : Int) * (SN : Int) := uv_int (e := 1020) (by decide) (by decide) (by decide) (by decide) (by decide)
  rw [SN_TN'] at h
  exact ⟨inv_lin1 _ _ (Int.le_of_eq h) TN_pos, inv_lin2 _ _ (Int.le_of_eq h.symm) TN_pos⟩

structure DenR (inv e1 e2 d : Nat) : Prop where
  fin : Fin' d
  lo : 0 ≤ V d
  hi : V d ≤ V inv
  zero : V e1 = 0 → V d = 0
  full : V e1 = (SN : Int) → V e2 = (SN : Int) → V d = V inv
  pos : 8 ≤ V e1 → 40 * (TN : Int) ≤ V e2 → 0 < V d

theorem uv_small (k : Nat) (h : k < 2 ^ 52) : Rep (k : Int) := by
  refine ⟨k, by rw [infR_def]; omega, Or.inl ?_⟩
  unfold uv
  rw [if_pos (by rw [bin_def]; exact h)]

theorem den_gen {inv e1 e2 : Nat} (fi : Fin' inv) (hi : V inv ≤ 32 * (TN : Int) ∧ 16 * (TN : Int) ≤ V inv) (f1 : Fin' e1) (f2 : Fin' e2) (l1 : 0 ≤ V e1) (h1 : V e1 ≤ (SN : Int)) (l2 : 0 ≤ V e2) (h2 : V e2 ≤ (SN : Int)) :
    ∃ p d, double.mul e1 e2 = some p ∧ double.mul p inv = some d ∧ DenR inv e1 e2 d := by
  have hT := TN_pos
  have hS := SN_TN'
  obtain ⟨p, ep, rp⟩ := mul_rd f1 f2
  have p1 : V p ≤ (SN : Int) := rp.le _ (one_V ▸ one_fin.rep) (mul_bound h1 (by omega) h2 (by omega)).1
  have p2 : 0 ≤ V p := rp.ge _ rep_zero (by rw [Int.zero_mul]; exact Int.mul_nonneg l1 l2)
  have fp : Fin' p := fin_T rp.lt (by omega) (by omega)
  obtain ⟨d, ed, rd⟩ := mul_rd fp fi
  have d1 : V d ≤ V inv := rd.le _ fi.rep (by
    rw [Int.mul_comm (V inv)]
    exact Int.mul_le_mul_of_nonneg_right p1 (by omega))
  have d2 : 0 ≤ V d := rd.ge _ rep_zero (by rw [Int.zero_mul]; exact Int.mul_nonneg p2 (by omega))
  refine ⟨p, d, ep, ed, fin_T rd.lt (by omega) (by omega), d2, d1, fun h => ?_, fun ha hb => ?_, fun ha hb => ?_⟩
  · have vp : V p = 0 := rp.exactB rep_zero (by rw [h, Int.zero_mul, Int.zero_mul])
    exact rd.exactB rep_zero (by rw [vp, Int.zero_mul, Int.zero_mul])
  · have vp : V p = (SN : Int) := rp.exactB (one_V ▸ one_fin.rep) (by rw [ha, hb])
    exact rd.exactB fi.rep (by rw [vp, Int.mul_comm])
  · have vp : 4 ≤ V p := rp.ge 4 (uv_small 4 (by decide)) (by
      have : 8 * (32 * (TN : Int)) ≤ V e1 * V e2 := Int.mul_le_mul ha (by omega) (by omega) (by omega)
      omega)
    have : 1 ≤ V d := rd.ge 1 (uv_small 1 (by decide)) (by
      have : 4 * (16 * (TN : Int)) ≤ V p * V inv := Int.mul_le_mul vp hi.2 (by omega) (by omega)
      omega)
    omega
end Go.Proofs.YbulkbyisDoor.Fl
